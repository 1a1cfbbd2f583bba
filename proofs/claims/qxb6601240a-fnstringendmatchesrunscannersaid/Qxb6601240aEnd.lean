import Derived.Test.Qxb6601240aBridge
import Derived.Deep.QuietTactic
import Derived.BigQuiet
import Derived.Deep.RegionWith
import Derived.Deep.LoopGhost
import Derived.Deep.DeepCutAuto
namespace Go.Proofs.Qxb6601240a
open Go.RowKit Plain
set_option linter.unusedVariables false

/-- what stringEnd leaves -/
def SePost (s : ByteArray) (i : Nat) (w : World) (e : Ending) (w' : World) : Prop :=
  e = .returned (.tuple #[.int .i64 ((strEnd (Bt s) s.size i).1 : Nat), .int .i64 ((strEnd (Bt s) s.size i).2 : Nat)]) ∧ Below w.heap.size w w'

theorem rn_three {B : Nat → Nat} {n q j : Nat} (h : 3 ≤ rn B n q j) : j + 3 + rn B n q (j + 3) = fin B n q 3 j := by
  have hlt : ∀ x, 0 < rn B n q x → x < n ∧ B x = q := fun x hx => by
    constructor
    · rcases Nat.lt_or_ge x n with h | h
      · exact h
      · rw [rn_end (by omega)] at hx; omega
    · have := rn_at (B := B) (n := n) (q := q) (j := x) (k := 0) hx
      simpa using this
  have a0 := hlt j (by omega)
  have r0 := rn_hit a0.1 a0.2
  have a1 := hlt (j + 1) (by omega)
  have r1 := rn_hit a1.1 a1.2
  have a2 := hlt (j + 1 + 1) (by omega)
  have r2 := rn_hit a2.1 a2.2
  show j + 3 + rn B n q (j + 3) = j + rn B n q j
  rw [show j + 1 + 1 + 1 = j + 3 by omega] at r2
  omega

theorem se_post {s : ByteArray} {i : Nat} {w w' : World} {x y : Nat} {u v : Value} (h : strEnd (Bt s) s.size i = (x, y)) (hu : u = .int .i64 x) (hv : v = .int .i64 y) (hb : Below w.heap.size w w') : SePost s i w (.returned (.tuple #[u, v])) w' := by
  refine ⟨?_, hb⟩
  rw [h, hu, hv]

set_option maxHeartbeats 2000000 in
set_option maxRecDepth 100000 in
theorem se1 (s : ByteArray) (i : Nat) (hi : i < s.size) (hn : s.size ≤ 1048576) (hq : Bt s i = 34 ∨ Bt s i = 39) (w : World) (hw : ¬ 3 ≤ rn (Bt s) s.size (Bt s i) i) :
    Calls Try.prog 20 #[.string s, .int .i64 i] w fun e w' => SePost s i w e w' := by
  have hqu := run_quote s i hi
  obtain ⟨b, hb⟩ : ∃ b, b = s.data.toList.getD i 0 := ⟨_, rfl⟩
  rw [← hb] at hqu
  have HB : Hid (b.toNat = Bt s i) := by rw [hb]; rfl
  clear hb
  have HQ : Hid (Bt s i = 34 ∨ Bt s i = 39) := hq
  have HP3 : Hid ((⟨#[b, b, b]⟩ : ByteArray).data.toList = List.replicate 3 b) := rfl
  have HP1 : Hid ((⟨#[b]⟩ : ByteArray).data.toList = List.replicate 1 b) := rfl
  have HW : Hid (¬ 3 ≤ rn (Bt s) s.size b.toNat i) := by rw [HB.out]; exact hw
  have HS : Hid (strEnd (Bt s) s.size i = res (Bt s) s.size b.toNat 1 (i + 1) 0) := by
    show strEnd (Bt s) s.size i = _
    unfold strEnd
    rw [show wide (Bt s) s.size i = 1 from by unfold wide; rw [if_neg hw], HB.out]
  clear hw hq
  go_enter Try.func20, Try.ntmps20
  go_wp2_with fail
  go_cut [21] (fun t wx => t = .bool false ∧ Below w.heap.size w wx)
  case first =>
    go_region_with (first | (go_at_call 23; refine (rep3 b _).mono ?_; rintro e w1 ⟨rfl, hb1⟩) | (go_at_call 22; refine (hp_no s b 3 i _ HP3 HW _).mono ?_; rintro e w2 ⟨rfl, rfl⟩))
    all_goals (try go_wp2_with fail)
    all_goals go_meet
    all_goals exact ⟨rfl, ⟨hb1.os, hb1.tape, hb1.output, hb1.size, hb1.block⟩⟩
  case rest =>
    obtain ⟨rfl, hbc⟩ := hcut
    go_wp2_with fail
    go_loopg [5, 8] s.size (fun g l j wr => ∃ jn ln : Nat, jn ≤ s.size ∧ ln ≤ jn ∧ s.size - jn ≤ g ∧ j = .int .i64 jn ∧ l = .int .i64 ln ∧ strEnd (Bt s) s.size i = res (Bt s) s.size b.toNat 1 jn ln ∧ Below w.heap.size w wr)
    case atStart => exact ⟨i + 1, 0, by omega, by omega, by omega, by go_num, rfl, HS.out, hbc⟩
    case round =>
      obtain ⟨j, l, hj, hlj, hg, rfl, rfl, hR, hbr⟩ := hrel
      have HR : Hid (strEnd (Bt s) s.size i = res (Bt s) s.size b.toNat 1 j l) := hR
      clear hR
      by_cases hlt : j < s.size
      · have ix := run_ix s j hlt
        have hlt' : (j : Int) < (s.size : Int) := by omega
        obtain ⟨c, hc⟩ : ∃ c : Int, c = (Bt s j : Int) := ⟨_, rfl⟩
        rw [← hc] at ix
        have HC : Hid (c = (Bt s j : Int)) := hc
        clear hc
        by_cases e10 : (c == 10) = true
        · have HN : Hid (strEnd (Bt s) s.size i = res (Bt s) s.size b.toNat 1 (j + 1) (l + 1)) := HR.out.trans (res_line hlt (by have := HC.out; simp at e10; omega))
          go_wp2_with fail
          go_roundg (gk - 1)
          case measure => omega
          case rel => exact ⟨j + 1, l + 1, by omega, by omega, by omega, by go_num, by go_num, HN.out, hbr⟩
        · have f10 : (c == 10) = false := by simpa using e10
          have H10 : Hid (¬ Bt s j = 10) := fun h => by have := HC.out; simp at f10; omega
          clear e10
          by_cases e92 : (c == 92) = true
          · have H92 : Hid (Bt s j = 92) := by have := HC.out; simp at e92; show _ = _; omega
            have HM : Hid (¬ 1 ≤ rn (Bt s) s.size b.toNat j) := fun h => by
              rw [rn_miss (by have := HB.out; have := HQ.out; have := H92.out; omega)] at h
              omega
            by_cases h1 : j + 1 < s.size
            · have ix1 : ∀ w, (Instr.index 9 (.string s) (.int .i64 ((j : Int) + 1))).run Try.prog w = .ok (.int .u8 (Bt s (j + 1) : Int)) w := run_ix s (j + 1) h1
              have h1' : (j : Int) + 1 < (s.size : Int) := by omega
              obtain ⟨d, hd⟩ : ∃ d : Int, d = (Bt s (j + 1) : Int) := ⟨_, rfl⟩
              rw [← hd] at ix1
              have HD : Hid (d = (Bt s (j + 1) : Int)) := hd
              clear hd
              by_cases e34 : (d == 34) = true
              · have HN : Hid (strEnd (Bt s) s.size i = res (Bt s) s.size b.toNat 1 (j + 2) l) := HR.out.trans (res_esc hlt H10.out (esc_of H92.out h1 (by have := HD.out; simp at e34; omega)))
                go_wp2_with fail
                go_roundg (gk - 1)
                case measure => omega
                case rel => exact ⟨j + 2, l, by omega, by omega, by omega, by go_num, rfl, HN.out, hbr⟩
              · have f34 : (d == 34) = false := by simpa using e34
                clear e34
                by_cases d92 : (d == 92) = true
                · have HN : Hid (strEnd (Bt s) s.size i = res (Bt s) s.size b.toNat 1 (j + 2) l) := HR.out.trans (res_esc hlt H10.out (esc_of H92.out h1 (by have := HD.out; simp at d92; omega)))
                  go_wp2_with fail
                  go_roundg (gk - 1)
                  case measure => omega
                  case rel => exact ⟨j + 2, l, by omega, by omega, by omega, by go_num, rfl, HN.out, hbr⟩
                · have g92 : (d == 92) = false := by simpa using d92
                  clear d92
                  have HN : Hid (strEnd (Bt s) s.size i = res (Bt s) s.size b.toNat 1 (j + 1) l) := HR.out.trans (res_next hlt H10.out (fun h => by have := (esc_lt h).2.2; have := HD.out; simp at f34 g92; omega) HM.out)
                  go_wp2_with (go_at_call 22; refine (hp_no s b 1 j _ HP1 HM _).mono ?_; rintro e w2 ⟨rfl, rfl⟩)
                  go_roundg (gk - 1)
                  case measure => omega
                  case rel => exact ⟨j + 1, l, by omega, by omega, by omega, by go_num, rfl, HN.out, hbr⟩
            · have h1' : ¬ (j : Int) + 1 < (s.size : Int) := by omega
              have HN : Hid (strEnd (Bt s) s.size i = res (Bt s) s.size b.toNat 1 (j + 1) l) := HR.out.trans (res_next hlt H10.out (fun h => by have := (esc_lt h).2.1; omega) HM.out)
              go_wp2_with (go_at_call 22; refine (hp_no s b 1 j _ HP1 HM _).mono ?_; rintro e w2 ⟨rfl, rfl⟩)
              go_roundg (gk - 1)
              case measure => omega
              case rel => exact ⟨j + 1, l, by omega, by omega, by omega, by go_num, rfl, HN.out, hbr⟩
          · have f92 : (c == 92) = false := by simpa using e92
            clear e92
            have HE : Hid (¬ esc (Bt s) s.size j = true) := not_esc (fun h => by have := HC.out; simp at f92; omega)
            by_cases hcl : 1 ≤ rn (Bt s) s.size b.toNat j
            · have HY : Hid (1 ≤ rn (Bt s) s.size b.toNat j) := hcl
              have HF : Hid (strEnd (Bt s) s.size i = (fin (Bt s) s.size b.toNat 1 j, l)) := HR.out.trans (res_close hlt H10.out HE.out hcl)
              have hle := rn_le (Bt s) s.size b.toNat j hj
              have hj3 : j + 1 ≤ s.size := by omega
              clear hcl hle
              go_wp2_with (go_at_call 22; refine (hp_yes s b 1 j _ HP1 HY _).mono ?_; rintro e w2 ⟨rfl, rfl⟩)
              refine wp_loop_rounds 1 ?_
              rw [rounds_succ]
              go_wp2_with fail
              go_quiet (fail)
              go_wp2_with fail
              go_ret2
              exact se_post HF.out (by go_num) rfl (below_drewN hbr _)
            · have HM : Hid (¬ 1 ≤ rn (Bt s) s.size b.toNat j) := hcl
              have HN : Hid (strEnd (Bt s) s.size i = res (Bt s) s.size b.toNat 1 (j + 1) l) := HR.out.trans (res_next hlt H10.out HE.out hcl)
              clear hcl
              go_wp2_with (go_at_call 22; refine (hp_no s b 1 j _ HP1 HM _).mono ?_; rintro e w2 ⟨rfl, rfl⟩)
              go_roundg (gk - 1)
              case measure => omega
              case rel => exact ⟨j + 1, l, by omega, by omega, by omega, by go_num, rfl, HN.out, hbr⟩
      · have HN : Hid (strEnd (Bt s) s.size i = (s.size, l)) := HR.out.trans (res_out hlt)
        have hlt' : ¬ (j : Int) < (s.size : Int) := by omega
        go_wp2_with fail
        go_ret2
        exact se_post HN.out rfl rfl hbr

end Go.Proofs.Qxb6601240a
