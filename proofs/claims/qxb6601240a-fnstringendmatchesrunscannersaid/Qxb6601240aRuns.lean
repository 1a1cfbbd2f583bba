import Derived.Test.Qxb6601240aBridge
import Derived.Deep.LoopGhost
import Derived.Deep.DeepCutAuto
namespace Go.Proofs.Qxb6601240a
open Go.RowKit Plain
set_option linter.unusedVariables false

theorem cnt_next (B : Nat → Nat) (a m : Nat) : cnt B a (m + 1) = cnt B a m + if B (a + m) = 10 then 1 else 0 := rfl

/-- at the run's end -/
theorem rn_stop {B : Nat → Nat} {n q j : Nat} (h : j + rn B n q j < n) : ¬ B (j + rn B n q j) = q := by
  unfold rn at h ⊢
  exact runF_stop B q (n - j) j (by omega)

set_option maxHeartbeats 400000 in
theorem count_any (s : ByteArray) (hn : s.size ≤ 1048576) (w : World) :
    Calls Try.prog 12 #[.string s] w fun e w' => e = .returned (.int .i64 (cnt (Bt s) 0 s.size : Nat)) ∧ w = w' := by
  go_enter Try.func12, Try.ntmps12
  go_wp2
  go_loop [3, 4] (fun t i => ∃ k z : Nat, k ≤ s.size ∧ z ≤ k ∧ i = .int .i64 k ∧ t = .int .i64 z ∧ z = cnt (Bt s) 0 k) (fun _ i => s.size - (intOf i).toNat)
  case atStart => exact ⟨0, 0, Nat.zero_le _, Nat.zero_le _, rfl, rfl, rfl⟩
  case round =>
    obtain ⟨k, z, hk, hzk, rfl, rfl, hz⟩ := hrel
    have HZ : Hid (z = cnt (Bt s) 0 k) := hz
    clear hz
    by_cases hlt : k < s.size
    · have ix := run_ix s k hlt
      have hlt' : (k : Int) < (s.size : Int) := by omega
      obtain ⟨c, hc⟩ : ∃ c : Int, c = (Bt s k : Int) := ⟨_, rfl⟩
      rw [← hc] at ix
      have HC : Hid (c = (Bt s k : Int)) := hc
      clear hc
      by_cases e10 : (c == 10) = true
      · have HN : Hid (z + 1 = cnt (Bt s) 0 (k + 1)) := by
          show z + 1 = _
          rw [cnt_next, Nat.zero_add, if_pos (by have := HC.out; simp at e10; omega), ← HZ.out]
        go_wp2
        go_round
        case rel => exact ⟨k + 1, z + 1, by omega, by omega, by go_num, by go_num, HN.out⟩
        case measure => simp [intOf]; omega
      · have f10 : (c == 10) = false := by simpa using e10
        have HN : Hid (z = cnt (Bt s) 0 (k + 1)) := by
          show z = _
          rw [cnt_next, Nat.zero_add, if_neg (by have := HC.out; simp at f10; omega), ← HZ.out]; rfl
        clear e10
        go_wp2
        go_round
        case rel => exact ⟨k + 1, z, by omega, by omega, by go_num, rfl, HN.out⟩
        case measure => simp [intOf]; omega
    · have hlt' : ¬ (k : Int) < (s.size : Int) := by omega
      have HN : Hid (cnt (Bt s) 0 s.size = z) := by show _ = _; rw [show s.size = k by omega]; exact HZ.out.symm
      go_wp2
      go_ret
      exact ⟨by rw [HN.out]; rfl, rfl⟩

set_option maxHeartbeats 2000000 in
set_option maxRecDepth 100000 in
theorem runs1 (s : ByteArray) (i : Nat) (hi : i < s.size) (hn : s.size ≤ 1048576) (hq : Bt s i = 34 ∨ Bt s i = 39) (w : World) (hw : ¬ 3 ≤ rn (Bt s) s.size (Bt s i) i) :
    Calls Try.prog 11 #[.string s, .int .i64 i] w fun e w' => e = .returned (.int .i64 (runsEnd (Bt s) s.size i : Nat)) ∧ w = w' := by
  have ix0 := run_ix s i hi
  obtain ⟨q, hqq⟩ : ∃ q : Int, q = (Bt s i : Int) := ⟨_, rfl⟩
  rw [← hqq] at ix0
  have HQ : Hid (q = (Bt s i : Int)) := hqq
  have HQ4 : Hid (Bt s i = 34 ∨ Bt s i = 39) := hq
  have HS : Hid (runsEnd (Bt s) s.size i = res2 (Bt s) s.size (Bt s i) 1 (i + 1)) := by
    show runsEnd (Bt s) s.size i = _
    unfold runsEnd
    rw [show wide (Bt s) s.size i = 1 from by unfold wide; rw [if_neg hw]]
  have HW : Hid (¬ 3 ≤ rn (Bt s) s.size (Bt s i) i) := hw
  clear hqq hq hw
  have hi' : (i : Int) < (s.size : Int) := by omega
  go_enter Try.func11, Try.ntmps11
  go_upto_region 3 with fail
  go_cut [33] (fun t wx => t = .bool false ∧ w = wx)
  case first =>
    by_cases h2 : i + 2 < s.size
    · have h2' : (i : Int) + 2 < (s.size : Int) := by omega
      have ia : ∀ w, (Instr.index 9 (.string s) (.int .i64 ((i : Int) + 1))).run Try.prog w = .ok (.int .u8 (Bt s (i + 1) : Int)) w := run_ix s (i + 1) (by omega)
      have ib : ∀ w, (Instr.index 9 (.string s) (.int .i64 ((i : Int) + 2))).run Try.prog w = .ok (.int .u8 (Bt s (i + 2) : Int)) w := run_ix s (i + 2) (by omega)
      obtain ⟨x, hx⟩ : ∃ x : Int, x = (Bt s (i + 1) : Int) := ⟨_, rfl⟩
      obtain ⟨y, hy⟩ : ∃ y : Int, y = (Bt s (i + 2) : Int) := ⟨_, rfl⟩
      rw [← hx] at ia
      rw [← hy] at ib
      have HX : Hid (x = (Bt s (i + 1) : Int) ∧ y = (Bt s (i + 2) : Int)) := ⟨hx, hy⟩
      clear hx hy
      by_cases exq : (x == q) = true
      · have fyq : (y == q) = false := by
          have h := HW.out
          have h1 := HX.out.1
          have h2 := HX.out.2
          have h3 := HQ.out
          simp at exq ⊢
          intro hyq
          apply h
          rw [rn_hit hi rfl, rn_hit (by omega) (by omega), rn_hit (by omega : i + 1 + 1 < s.size) (by show Bt s (i + 2) = _; omega)]
          omega
        go_wp2_with fail
        go_meet
        exact ⟨rfl, rfl⟩
      · have fxq : (x == q) = false := by simpa using exq
        clear exq
        go_wp2_with fail
        go_meet
        exact ⟨rfl, rfl⟩
    · have h2' : ¬ (i : Int) + 2 < (s.size : Int) := by omega
      go_wp2_with fail
      go_meet
      exact ⟨rfl, rfl⟩
  case rest =>
    obtain ⟨rfl, rfl⟩ := hcut
    go_wp2_with fail
    go_loopg [7] s.size (fun g p wr => ∃ pn : Nat, pn ≤ s.size ∧ s.size - pn ≤ g ∧ p = .int .i64 pn ∧ runsEnd (Bt s) s.size i = res2 (Bt s) s.size (Bt s i) 1 pn ∧ w = wr)
    case atStart => exact ⟨i + 1, by omega, by omega, by go_num, HS.out, rfl⟩
    case round =>
      obtain ⟨j, hj, hg, rfl, hR, rfl⟩ := hrel
      have HR : Hid (runsEnd (Bt s) s.size i = res2 (Bt s) s.size (Bt s i) 1 j) := hR
      clear hR
      by_cases hlt : j < s.size
      · have ix := run_ix s j hlt
        have hlt' : (j : Int) < (s.size : Int) := by omega
        obtain ⟨c, hc⟩ : ∃ c : Int, c = (Bt s j : Int) := ⟨_, rfl⟩
        rw [← hc] at ix
        have HC : Hid (c = (Bt s j : Int)) := hc
        clear hc
        by_cases e92 : (c == 92) = true
        · have H92 : Hid (Bt s j = 92) := by have := HC.out; simp at e92; show _ = _; omega
          have nq : (c != q) = true := by have := HC.out; have := HQ.out; have := HQ4.out; have := H92.out; simp; omega
          have Hne : Hid (¬ Bt s j = Bt s i) := fun h => by have := HQ4.out; have := H92.out; omega
          by_cases h1 : j + 1 < s.size
          · have ix1 : ∀ w, (Instr.index 9 (.string s) (.int .i64 ((j : Int) + 1))).run Try.prog w = .ok (.int .u8 (Bt s (j + 1) : Int)) w := run_ix s (j + 1) h1
            have h1' : (j : Int) + 1 < (s.size : Int) := by omega
            obtain ⟨d, hd⟩ : ∃ d : Int, d = (Bt s (j + 1) : Int) := ⟨_, rfl⟩
            rw [← hd] at ix1
            have HD : Hid (d = (Bt s (j + 1) : Int)) := hd
            clear hd
            by_cases e34 : (d == 34) = true
            · have HN : Hid (runsEnd (Bt s) s.size i = res2 (Bt s) s.size (Bt s i) 1 (j + 2)) := HR.out.trans (res2_esc hlt (esc_of H92.out h1 (by have := HD.out; simp at e34; omega)))
              go_wp2_with fail
              go_roundg (s.size - (j + 2))
              case measure => omega
              case rel => exact ⟨j + 2, by omega, by omega, by go_num, HN.out, rfl⟩
            · have f34 : (d == 34) = false := by simpa using e34
              clear e34
              by_cases d92 : (d == 92) = true
              · have HN : Hid (runsEnd (Bt s) s.size i = res2 (Bt s) s.size (Bt s i) 1 (j + 2)) := HR.out.trans (res2_esc hlt (esc_of H92.out h1 (by have := HD.out; simp at d92; omega)))
                go_wp2_with fail
                go_roundg (s.size - (j + 2))
                case measure => omega
                case rel => exact ⟨j + 2, by omega, by omega, by go_num, HN.out, rfl⟩
              · have g92 : (d == 92) = false := by simpa using d92
                clear d92
                have HN : Hid (runsEnd (Bt s) s.size i = res2 (Bt s) s.size (Bt s i) 1 (j + 1)) := HR.out.trans (res2_miss hlt (fun h => by have := (esc_lt h).2.2; have := HD.out; simp at f34 g92; omega) Hne.out)
                go_wp2_with fail
                go_roundg (s.size - (j + 1))
                case measure => omega
                case rel => exact ⟨j + 1, by omega, by omega, by go_num, HN.out, rfl⟩
          · have h1' : ¬ (j : Int) + 1 < (s.size : Int) := by omega
            have HN : Hid (runsEnd (Bt s) s.size i = res2 (Bt s) s.size (Bt s i) 1 (j + 1)) := HR.out.trans (res2_miss hlt (fun h => by have := (esc_lt h).2.1; omega) Hne.out)
            go_wp2_with fail
            go_roundg (s.size - (j + 1))
            case measure => omega
            case rel => exact ⟨j + 1, by omega, by omega, by go_num, HN.out, rfl⟩
        · have f92 : (c == 92) = false := by simpa using e92
          clear e92
          have HE : Hid (¬ esc (Bt s) s.size j = true) := not_esc (fun h => by have := HC.out; simp at f92; omega)
          by_cases ecq : (c != q) = true
          · have HN : Hid (runsEnd (Bt s) s.size i = res2 (Bt s) s.size (Bt s i) 1 (j + 1)) := HR.out.trans (res2_miss hlt HE.out (fun h => by have := HC.out; have := HQ.out; simp at ecq; omega))
            go_wp2_with fail
            go_roundg (s.size - (j + 1))
            case measure => omega
            case rel => exact ⟨j + 1, by omega, by omega, by go_num, HN.out, rfl⟩
          · have fcq : (c != q) = false := by simpa using ecq
            clear ecq
            have Heq : Hid (Bt s j = Bt s i) := by have := HC.out; have := HQ.out; simp at fcq; show _ = _; omega
            obtain ⟨R, hR⟩ : ∃ R, R = rn (Bt s) s.size (Bt s i) j := ⟨_, rfl⟩
            have hRle : j + R ≤ s.size := by rw [hR]; exact rn_le _ _ _ _ hj
            have hR1 : 1 ≤ R := by rw [hR, rn_hit hlt Heq.out]; omega
            have Hat : Hid (∀ r, r < R → Bt s (j + r) = Bt s i) := fun r hr => rn_at (n := s.size) (by rw [← hR]; exact hr)
            have Hst : Hid (j + R < s.size → ¬ Bt s (j + R) = Bt s i) := by rw [hR]; exact rn_stop
            have HF : Hid (runsEnd (Bt s) s.size i = j + 1) := HR.out.trans (res2_close hlt HE.out Heq.out (by rw [← hR]; exact hR1))
            clear hR
            go_wp2_with fail
            go_loopg [9] s.size (fun g r wr2 => ∃ m : Nat, m ≤ R ∧ R - m ≤ g ∧ r = .int .i64 m ∧ w = wr2)
            case atStart => exact ⟨0, by omega, by omega, rfl, rfl⟩
            case round =>
              obtain ⟨m, hm, hg2, rfl, rfl⟩ := hrel
              by_cases hmR : m < R
              · have im : ∀ w, (Instr.index 9 (.string s) (.int .i64 ((j : Int) + (m : Int)))).run Try.prog w = .ok (.int .u8 q) w := fun w => by
                  have := run_ix s (j + m) (by omega) w
                  rw [Hat.out m hmR, ← HQ.out] at this
                  exact this
                have hjm : (j : Int) + (m : Int) < (s.size : Int) := by omega
                go_wp2_with fail
                go_roundg (R - (m + 1))
                case measure => omega
                case rel => exact ⟨m + 1, by omega, by omega, by go_num, rfl⟩
              · obtain rfl : m = R := by omega
                by_cases hjR : j + m < s.size
                · have im : ∀ w, (Instr.index 9 (.string s) (.int .i64 ((j : Int) + (m : Int)))).run Try.prog w = .ok (.int .u8 (Bt s (j + m) : Int)) w := run_ix s (j + m) hjR
                  have hjm : (j : Int) + (m : Int) < (s.size : Int) := by omega
                  obtain ⟨x, hx⟩ : ∃ x : Int, x = (Bt s (j + m) : Int) := ⟨_, rfl⟩
                  have fx : (x == q) = false := by have := Hst.out hjR; have := HQ.out; simp; omega
                  rw [← hx] at im
                  clear hx
                  go_wp2_with fail
                  go_ret
                  exact ⟨by rw [HF.out]; rfl, rfl⟩
                · have hjm : ¬ (j : Int) + (m : Int) < (s.size : Int) := by omega
                  go_wp2_with fail
                  go_ret
                  exact ⟨by rw [HF.out]; rfl, rfl⟩
      · have HN : Hid (runsEnd (Bt s) s.size i = s.size) := HR.out.trans (res2_out hlt)
        have hlt' : ¬ (j : Int) < (s.size : Int) := by omega
        go_wp2_with fail
        go_ret
        exact ⟨by rw [HN.out]; rfl, rfl⟩

set_option maxHeartbeats 2000000 in
set_option maxRecDepth 100000 in
theorem runs3 (s : ByteArray) (i : Nat) (hi : i < s.size) (hn : s.size ≤ 1048576) (hq : Bt s i = 34 ∨ Bt s i = 39) (w : World) (hw : 3 ≤ rn (Bt s) s.size (Bt s i) i) :
    Calls Try.prog 11 #[.string s, .int .i64 i] w fun e w' => e = .returned (.int .i64 (runsEnd (Bt s) s.size i : Nat)) ∧ w = w' := by
  have ix0 := run_ix s i hi
  obtain ⟨q, hqq⟩ : ∃ q : Int, q = (Bt s i : Int) := ⟨_, rfl⟩
  rw [← hqq] at ix0
  have HQ : Hid (q = (Bt s i : Int)) := hqq
  have HQ4 : Hid (Bt s i = 34 ∨ Bt s i = 39) := hq
  have HS : Hid (runsEnd (Bt s) s.size i = res2 (Bt s) s.size (Bt s i) 3 (i + 3)) := by
    show runsEnd (Bt s) s.size i = _
    unfold runsEnd
    rw [show wide (Bt s) s.size i = 3 from by unfold wide; rw [if_pos hw]]
  have HW : Hid (3 ≤ rn (Bt s) s.size (Bt s i) i) := hw
  have hi3 : i + 3 ≤ s.size := by have := rn_le (Bt s) s.size (Bt s i) i (by omega); have := HW.out; omega
  clear hqq hq hw
  have hi' : (i : Int) < (s.size : Int) := by omega
  go_enter Try.func11, Try.ntmps11
  go_upto_region 3 with fail
  go_cut [33] (fun t wx => t = .bool true ∧ w = wx)
  case first =>
    have h2' : (i : Int) + 2 < (s.size : Int) := by omega
    have ia : ∀ w, (Instr.index 9 (.string s) (.int .i64 ((i : Int) + 1))).run Try.prog w = .ok (.int .u8 q) w := fun w => by
      have := run_ix s (i + 1) (by omega) w
      rw [rn_at (B := Bt s) (n := s.size) (q := Bt s i) (j := i) (k := 1) (by have := HW.out; omega), ← HQ.out] at this
      exact this
    have ib : ∀ w, (Instr.index 9 (.string s) (.int .i64 ((i : Int) + 2))).run Try.prog w = .ok (.int .u8 q) w := fun w => by
      have := run_ix s (i + 2) (by omega) w
      rw [rn_at (B := Bt s) (n := s.size) (q := Bt s i) (j := i) (k := 2) (by have := HW.out; omega), ← HQ.out] at this
      exact this
    go_wp2_with fail
    go_meet
    exact ⟨rfl, rfl⟩
  case rest =>
    obtain ⟨rfl, rfl⟩ := hcut
    go_wp2_with fail
    go_loopg [7] s.size (fun g p wr => ∃ pn : Nat, pn ≤ s.size ∧ s.size - pn ≤ g ∧ p = .int .i64 pn ∧ runsEnd (Bt s) s.size i = res2 (Bt s) s.size (Bt s i) 3 pn ∧ w = wr)
    case atStart => exact ⟨i + 3, by omega, by omega, by go_num, HS.out, rfl⟩
    case round =>
      obtain ⟨j, hj, hg, rfl, hR, rfl⟩ := hrel
      have HR : Hid (runsEnd (Bt s) s.size i = res2 (Bt s) s.size (Bt s i) 3 j) := hR
      clear hR
      by_cases hlt : j < s.size
      · have ix := run_ix s j hlt
        have hlt' : (j : Int) < (s.size : Int) := by omega
        obtain ⟨c, hc⟩ : ∃ c : Int, c = (Bt s j : Int) := ⟨_, rfl⟩
        rw [← hc] at ix
        have HC : Hid (c = (Bt s j : Int)) := hc
        clear hc
        by_cases e92 : (c == 92) = true
        · have H92 : Hid (Bt s j = 92) := by have := HC.out; simp at e92; show _ = _; omega
          have nq : (c != q) = true := by have := HC.out; have := HQ.out; have := HQ4.out; have := H92.out; simp; omega
          have Hne : Hid (¬ Bt s j = Bt s i) := fun h => by have := HQ4.out; have := H92.out; omega
          by_cases h1 : j + 1 < s.size
          · have ix1 : ∀ w, (Instr.index 9 (.string s) (.int .i64 ((j : Int) + 1))).run Try.prog w = .ok (.int .u8 (Bt s (j + 1) : Int)) w := run_ix s (j + 1) h1
            have h1' : (j : Int) + 1 < (s.size : Int) := by omega
            obtain ⟨d, hd⟩ : ∃ d : Int, d = (Bt s (j + 1) : Int) := ⟨_, rfl⟩
            rw [← hd] at ix1
            have HD : Hid (d = (Bt s (j + 1) : Int)) := hd
            clear hd
            by_cases e34 : (d == 34) = true
            · have HN : Hid (runsEnd (Bt s) s.size i = res2 (Bt s) s.size (Bt s i) 3 (j + 2)) := HR.out.trans (res2_esc hlt (esc_of H92.out h1 (by have := HD.out; simp at e34; omega)))
              go_wp2_with fail
              go_roundg (s.size - (j + 2))
              case measure => omega
              case rel => exact ⟨j + 2, by omega, by omega, by go_num, HN.out, rfl⟩
            · have f34 : (d == 34) = false := by simpa using e34
              clear e34
              by_cases d92 : (d == 92) = true
              · have HN : Hid (runsEnd (Bt s) s.size i = res2 (Bt s) s.size (Bt s i) 3 (j + 2)) := HR.out.trans (res2_esc hlt (esc_of H92.out h1 (by have := HD.out; simp at d92; omega)))
                go_wp2_with fail
                go_roundg (s.size - (j + 2))
                case measure => omega
                case rel => exact ⟨j + 2, by omega, by omega, by go_num, HN.out, rfl⟩
              · have g92 : (d == 92) = false := by simpa using d92
                clear d92
                have HN : Hid (runsEnd (Bt s) s.size i = res2 (Bt s) s.size (Bt s i) 3 (j + 1)) := HR.out.trans (res2_miss hlt (fun h => by have := (esc_lt h).2.2; have := HD.out; simp at f34 g92; omega) Hne.out)
                go_wp2_with fail
                go_roundg (s.size - (j + 1))
                case measure => omega
                case rel => exact ⟨j + 1, by omega, by omega, by go_num, HN.out, rfl⟩
          · have h1' : ¬ (j : Int) + 1 < (s.size : Int) := by omega
            have HN : Hid (runsEnd (Bt s) s.size i = res2 (Bt s) s.size (Bt s i) 3 (j + 1)) := HR.out.trans (res2_miss hlt (fun h => by have := (esc_lt h).2.1; omega) Hne.out)
            go_wp2_with fail
            go_roundg (s.size - (j + 1))
            case measure => omega
            case rel => exact ⟨j + 1, by omega, by omega, by go_num, HN.out, rfl⟩
        · have f92 : (c == 92) = false := by simpa using e92
          clear e92
          have HE : Hid (¬ esc (Bt s) s.size j = true) := not_esc (fun h => by have := HC.out; simp at f92; omega)
          by_cases ecq : (c != q) = true
          · have HN : Hid (runsEnd (Bt s) s.size i = res2 (Bt s) s.size (Bt s i) 3 (j + 1)) := HR.out.trans (res2_miss hlt HE.out (fun h => by have := HC.out; have := HQ.out; simp at ecq; omega))
            go_wp2_with fail
            go_roundg (s.size - (j + 1))
            case measure => omega
            case rel => exact ⟨j + 1, by omega, by omega, by go_num, HN.out, rfl⟩
          · have fcq : (c != q) = false := by simpa using ecq
            clear ecq
            have Heq : Hid (Bt s j = Bt s i) := by have := HC.out; have := HQ.out; simp at fcq; show _ = _; omega
            obtain ⟨R, hR⟩ : ∃ R, R = rn (Bt s) s.size (Bt s i) j := ⟨_, rfl⟩
            have hRle : j + R ≤ s.size := by rw [hR]; exact rn_le _ _ _ _ hj
            have hR1 : 1 ≤ R := by rw [hR, rn_hit hlt Heq.out]; omega
            have Hat : Hid (∀ r, r < R → Bt s (j + r) = Bt s i) := fun r hr => rn_at (n := s.size) (by rw [← hR]; exact hr)
            have Hst : Hid (j + R < s.size → ¬ Bt s (j + R) = Bt s i) := by rw [hR]; exact rn_stop
            by_cases hcl : 3 ≤ R
            · have HF : Hid (runsEnd (Bt s) s.size i = j + R) := HR.out.trans ((res2_close hlt HE.out Heq.out (by rw [← hR]; exact hcl)).trans (by rw [hR]; rfl))
              clear hR
              go_wp2_with fail
              go_loopg [9] s.size (fun g r wr2 => ∃ m : Nat, m ≤ R ∧ R - m ≤ g ∧ r = .int .i64 m ∧ w = wr2)
              case atStart => exact ⟨0, by omega, by omega, rfl, rfl⟩
              case round =>
                obtain ⟨m, hm, hg2, rfl, rfl⟩ := hrel
                by_cases hmR : m < R
                · have im : ∀ w, (Instr.index 9 (.string s) (.int .i64 ((j : Int) + (m : Int)))).run Try.prog w = .ok (.int .u8 q) w := fun w => by
                    have := run_ix s (j + m) (by omega) w
                    rw [Hat.out m hmR, ← HQ.out] at this
                    exact this
                  have hjm : (j : Int) + (m : Int) < (s.size : Int) := by omega
                  go_wp2_with fail
                  go_roundg (R - (m + 1))
                  case measure => omega
                  case rel => exact ⟨m + 1, by omega, by omega, by go_num, rfl⟩
                · obtain rfl : m = R := by omega
                  by_cases hjR : j + m < s.size
                  · have im : ∀ w, (Instr.index 9 (.string s) (.int .i64 ((j : Int) + (m : Int)))).run Try.prog w = .ok (.int .u8 (Bt s (j + m) : Int)) w := run_ix s (j + m) hjR
                    have hjm : (j : Int) + (m : Int) < (s.size : Int) := by omega
                    obtain ⟨x, hx⟩ : ∃ x : Int, x = (Bt s (j + m) : Int) := ⟨_, rfl⟩
                    have fx : (x == q) = false := by have := Hst.out hjR; have := HQ.out; simp; omega
                    rw [← hx] at im
                    clear hx
                    go_wp2_with fail
                    go_ret
                    exact ⟨by rw [HF.out]; rfl, rfl⟩
                  · have hjm : ¬ (j : Int) + (m : Int) < (s.size : Int) := by omega
                    go_wp2_with fail
                    go_ret
                    exact ⟨by rw [HF.out]; rfl, rfl⟩
            · have HN : Hid (runsEnd (Bt s) s.size i = res2 (Bt s) s.size (Bt s i) 3 (j + R)) := HR.out.trans ((res2_skip hlt HE.out Heq.out (by rw [← hR]; exact hcl)).trans (by rw [hR]))
              clear hR
              go_wp2_with fail
              go_loopg [9] s.size (fun g r wr2 => ∃ m : Nat, m ≤ R ∧ R - m ≤ g ∧ r = .int .i64 m ∧ w = wr2)
              case atStart => exact ⟨0, by omega, by omega, rfl, rfl⟩
              case round =>
                obtain ⟨m, hm, hg2, rfl, rfl⟩ := hrel
                by_cases hmR : m < R
                · have im : ∀ w, (Instr.index 9 (.string s) (.int .i64 ((j : Int) + (m : Int)))).run Try.prog w = .ok (.int .u8 q) w := fun w => by
                    have := run_ix s (j + m) (by omega) w
                    rw [Hat.out m hmR, ← HQ.out] at this
                    exact this
                  have hjm : (j : Int) + (m : Int) < (s.size : Int) := by omega
                  go_wp2_with fail
                  go_roundg (R - (m + 1))
                  case measure => omega
                  case rel => exact ⟨m + 1, by omega, by omega, by go_num, rfl⟩
                · obtain rfl : m = R := by omega
                  by_cases hjR : j + m < s.size
                  · have im : ∀ w, (Instr.index 9 (.string s) (.int .i64 ((j : Int) + (m : Int)))).run Try.prog w = .ok (.int .u8 (Bt s (j + m) : Int)) w := run_ix s (j + m) hjR
                    have hjm : (j : Int) + (m : Int) < (s.size : Int) := by omega
                    obtain ⟨x, hx⟩ : ∃ x : Int, x = (Bt s (j + m) : Int) := ⟨_, rfl⟩
                    have fx : (x == q) = false := by have := Hst.out hjR; have := HQ.out; simp; omega
                    rw [← hx] at im
                    clear hx
                    go_wp2_with fail
                    go_roundg (s.size - (j + m))
                    case measure => omega
                    case rel => exact ⟨j + m, by omega, by omega, by go_num, HN.out, rfl⟩
                  · have hjm : ¬ (j : Int) + (m : Int) < (s.size : Int) := by omega
                    go_wp2_with fail
                    go_roundg (s.size - (j + m))
                    case measure => omega
                    case rel => exact ⟨j + m, by omega, by omega, by go_num, HN.out, rfl⟩
      · have HN : Hid (runsEnd (Bt s) s.size i = s.size) := HR.out.trans (res2_out hlt)
        have hlt' : ¬ (j : Int) < (s.size : Int) := by omega
        go_wp2_with fail
        go_ret
        exact ⟨by rw [HN.out]; rfl, rfl⟩

end Go.Proofs.Qxb6601240a
