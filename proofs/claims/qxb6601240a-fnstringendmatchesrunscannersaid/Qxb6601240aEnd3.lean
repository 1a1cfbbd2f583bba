import Derived.Test.Qxb6601240aEnd
import Derived.Deep.QuietTactic
import Derived.BigQuiet
import Derived.Deep.RegionWith
import Derived.Deep.LoopGhost
import Derived.Deep.DeepCutAuto
namespace Go.Proofs.Qxb6601240a
open Go.RowKit Plain
set_option linter.unusedVariables false

set_option maxHeartbeats 2000000 in
set_option maxRecDepth 100000 in
theorem se3 (s : ByteArray) (i : Nat) (hi : i < s.size) (hn : s.size ≤ 1048576) (hq : Bt s i = 34 ∨ Bt s i = 39) (w : World) (hw : 3 ≤ rn (Bt s) s.size (Bt s i) i) :
    Calls Try.prog 20 #[.string s, .int .i64 i] w fun e w' => SePost s i w e w' := by
  have hqu := run_quote s i hi
  obtain ⟨b, hb⟩ : ∃ b, b = s.data.toList.getD i 0 := ⟨_, rfl⟩
  rw [← hb] at hqu
  have HB : Hid (b.toNat = Bt s i) := by rw [hb]; rfl
  clear hb
  have HQ : Hid (Bt s i = 34 ∨ Bt s i = 39) := hq
  have HP3 : Hid ((⟨#[b, b, b]⟩ : ByteArray).data.toList = List.replicate 3 b) := rfl
  have HP1 : Hid ((⟨#[b]⟩ : ByteArray).data.toList = List.replicate 1 b) := rfl
  have HW : Hid (3 ≤ rn (Bt s) s.size b.toNat i) := by rw [HB.out]; exact hw
  have HS : Hid (strEnd (Bt s) s.size i = res (Bt s) s.size b.toNat 3 (i + 3) 0) := by
    show strEnd (Bt s) s.size i = _
    unfold strEnd
    rw [show wide (Bt s) s.size i = 3 from by unfold wide; rw [if_pos hw], HB.out]
  have hi3 : i + 3 ≤ s.size := by have := rn_le (Bt s) s.size (Bt s i) i (by omega); omega
  clear hw hq
  go_enter Try.func20, Try.ntmps20
  go_wp2_with fail
  go_cut [21] (fun t wx => t = .bool true ∧ Below w.heap.size w wx)
  case first =>
    go_region_with (first | (go_at_call 23; refine (rep3 b _).mono ?_; rintro e w1 ⟨rfl, hb1⟩) | (go_at_call 22; refine (hp_yes s b 3 i _ HP3 HW _).mono ?_; rintro e w2 ⟨rfl, rfl⟩))
    all_goals (try go_wp2_with fail)
    all_goals go_meet
    all_goals exact ⟨rfl, ⟨hb1.os, hb1.tape, hb1.output, hb1.size, hb1.block⟩⟩
  case rest =>
    obtain ⟨rfl, hbc⟩ := hcut
    go_wp2_with fail
    refine (rep3 b _).mono ?_
    rintro e w4 ⟨rfl, hb4⟩
    have hbd := hbc.trans (hb4.mono hbc.size)
    go_wp2_with fail
    go_loopg [5, 8] s.size (fun g l j wr => ∃ jn ln : Nat, jn ≤ s.size ∧ ln ≤ jn ∧ s.size - jn ≤ g ∧ j = .int .i64 jn ∧ l = .int .i64 ln ∧ strEnd (Bt s) s.size i = res (Bt s) s.size b.toNat 3 jn ln ∧ Below w.heap.size w wr)
    case atStart => exact ⟨i + 3, 0, by omega, by omega, by omega, by go_num, rfl, HS.out, hbd⟩
    case round =>
      obtain ⟨j, l, hj, hlj, hg, rfl, rfl, hR, hbr⟩ := hrel
      have HR : Hid (strEnd (Bt s) s.size i = res (Bt s) s.size b.toNat 3 j l) := hR
      clear hR
      by_cases hlt : j < s.size
      · have ix := run_ix s j hlt
        have hlt' : (j : Int) < (s.size : Int) := by omega
        obtain ⟨c, hc⟩ : ∃ c : Int, c = (Bt s j : Int) := ⟨_, rfl⟩
        rw [← hc] at ix
        have HC : Hid (c = (Bt s j : Int)) := hc
        clear hc
        by_cases e10 : (c == 10) = true
        · have HN : Hid (strEnd (Bt s) s.size i = res (Bt s) s.size b.toNat 3 (j + 1) (l + 1)) := HR.out.trans (res_line hlt (by have := HC.out; simp at e10; omega))
          go_wp2_with fail
          go_roundg (gk - 1)
          case measure => omega
          case rel => exact ⟨j + 1, l + 1, by omega, by omega, by omega, by go_num, by go_num, HN.out, hbr⟩
        · have f10 : (c == 10) = false := by simpa using e10
          have H10 : Hid (¬ Bt s j = 10) := fun h => by have := HC.out; simp at f10; omega
          clear e10
          by_cases e92 : (c == 92) = true
          · have H92 : Hid (Bt s j = 92) := by have := HC.out; simp at e92; show _ = _; omega
            have HM : Hid (¬ 3 ≤ rn (Bt s) s.size b.toNat j) := fun h => by
              rw [rn_miss (by have := HB.out; have := HQ.out; have := H92.out; omega)] at h
              omega
            by_cases h1 : j + 1 < s.size
            · have ix1 : ∀ w, (Instr.index 9 (.string s) (.int .i64 ((j : Int) + 1))).run Try.prog w = .ok (.int .u8 (Bt s (j + 1) : Int)) w := run_ix s (j + 1) h1
              have h1' : (j : Int) + 1 < (s.size : Int) := by omega
              obtain ⟨d, hd⟩ : ∃ d : Int, d = (Bt s (j + 1) : Int) := ⟨_, rfl⟩
              rw [← hd] at ix1
              have HD : Hid (d = (Bt s (j + 1) : Int)) := hd
              clear hd
              by_cases e34 : (d == 34) = true
              · have HN : Hid (strEnd (Bt s) s.size i = res (Bt s) s.size b.toNat 3 (j + 2) l) := HR.out.trans (res_esc hlt H10.out (esc_of H92.out h1 (by have := HD.out; simp at e34; omega)))
                go_wp2_with fail
                go_roundg (gk - 1)
                case measure => omega
                case rel => exact ⟨j + 2, l, by omega, by omega, by omega, by go_num, rfl, HN.out, hbr⟩
              · have f34 : (d == 34) = false := by simpa using e34
                clear e34
                by_cases d92 : (d == 92) = true
                · have HN : Hid (strEnd (Bt s) s.size i = res (Bt s) s.size b.toNat 3 (j + 2) l) := HR.out.trans (res_esc hlt H10.out (esc_of H92.out h1 (by have := HD.out; simp at d92; omega)))
                  go_wp2_with fail
                  go_roundg (gk - 1)
                  case measure => omega
                  case rel => exact ⟨j + 2, l, by omega, by omega, by omega, by go_num, rfl, HN.out, hbr⟩
                · have g92 : (d == 92) = false := by simpa using d92
                  clear d92
                  have HN : Hid (strEnd (Bt s) s.size i = res (Bt s) s.size b.toNat 3 (j + 1) l) := HR.out.trans (res_next hlt H10.out (fun h => by have := (esc_lt h).2.2; have := HD.out; simp at f34 g92; omega) HM.out)
                  go_wp2_with (go_at_call 22; refine (hp_no s b 3 j _ HP3 HM _).mono ?_; rintro e w2 ⟨rfl, rfl⟩)
                  go_roundg (gk - 1)
                  case measure => omega
                  case rel => exact ⟨j + 1, l, by omega, by omega, by omega, by go_num, rfl, HN.out, hbr⟩
            · have h1' : ¬ (j : Int) + 1 < (s.size : Int) := by omega
              have HN : Hid (strEnd (Bt s) s.size i = res (Bt s) s.size b.toNat 3 (j + 1) l) := HR.out.trans (res_next hlt H10.out (fun h => by have := (esc_lt h).2.1; omega) HM.out)
              go_wp2_with (go_at_call 22; refine (hp_no s b 3 j _ HP3 HM _).mono ?_; rintro e w2 ⟨rfl, rfl⟩)
              go_roundg (gk - 1)
              case measure => omega
              case rel => exact ⟨j + 1, l, by omega, by omega, by omega, by go_num, rfl, HN.out, hbr⟩
          · have f92 : (c == 92) = false := by simpa using e92
            clear e92
            have HE : Hid (¬ esc (Bt s) s.size j = true) := not_esc (fun h => by have := HC.out; simp at f92; omega)
            by_cases hcl : 3 ≤ rn (Bt s) s.size b.toNat j
            · have HY : Hid (3 ≤ rn (Bt s) s.size b.toNat j) := hcl
              have HF : Hid (strEnd (Bt s) s.size i = (fin (Bt s) s.size b.toNat 3 j, l)) := HR.out.trans (res_close hlt H10.out HE.out hcl)
              have hle := rn_le (Bt s) s.size b.toNat j hj
              have hj3 : j + 3 ≤ s.size := by omega
              clear hcl hle
              go_wp2_with (go_at_call 22; refine (hp_yes s b 3 j _ HP3 HY _).mono ?_; rintro e w2 ⟨rfl, rfl⟩)
              go_loopg [9] s.size (fun g e wr2 => ∃ en : Nat, en ≤ s.size ∧ s.size - en ≤ g ∧ e = .int .i64 en ∧ en + rn (Bt s) s.size b.toNat en = fin (Bt s) s.size b.toNat 3 j ∧ Below w.heap.size w wr2)
              case atStart => exact ⟨j + 3, by omega, by omega, by go_num, rn_three HY.out, hbr⟩
              case round =>
                obtain ⟨en, hen, hg2, rfl, hE, hb2⟩ := hrel
                have HE2 : Hid (en + rn (Bt s) s.size b.toNat en = fin (Bt s) s.size b.toNat 3 j) := hE
                clear hE
                have iq := run_ix0 b
                by_cases hle : en < s.size
                · have ie := run_ix s en hle
                  have hle' : (en : Int) < (s.size : Int) := by omega
                  have dle : decide ((en : Int) < (s.size : Int)) = true := by simp; omega
                  obtain ⟨x, hx⟩ : ∃ x : Int, x = (Bt s en : Int) := ⟨_, rfl⟩
                  rw [← hx] at ie
                  have HX : Hid (x = (Bt s en : Int)) := hx
                  clear hx
                  by_cases exq : (x == (b.toNat : Int)) = true
                  · have HN : Hid (en + 1 + rn (Bt s) s.size b.toNat (en + 1) = fin (Bt s) s.size b.toNat 3 j) := by
                      have h1 := rn_hit (B := Bt s) (n := s.size) (q := b.toNat) hle (by have := HX.out; simp at exq; omega)
                      have h2 := HE2.out
                      show _ = _
                      omega
                    go_wp2_with fail
                    go_quiet (fail)
                    go_wp2_with fail
                    go_roundg (gk - 1)
                    case measure => omega
                    case rel => exact ⟨en + 1, by omega, by omega, by go_num, HN.out, below_drewN hb2 _⟩
                  · have fxq : (x == (b.toNat : Int)) = false := by simpa using exq
                    clear exq
                    have HN : Hid (fin (Bt s) s.size b.toNat 3 j = en) := by
                      have h1 := rn_miss (B := Bt s) (n := s.size) (q := b.toNat) (j := en) (fun h => by have := HX.out; simp at fxq; omega)
                      have h2 := HE2.out
                      show _ = _
                      omega
                    go_wp2_with fail
                    go_quiet (fail)
                    go_wp2_with fail
                    go_ret2
                    exact se_post HF.out (by rw [HN.out]; rfl) rfl (below_drewN hb2 _)
                · have HN : Hid (fin (Bt s) s.size b.toNat 3 j = en) := by
                    have h1 := rn_end (B := Bt s) (n := s.size) (q := b.toNat) (j := en) hle
                    have h2 := HE2.out
                    show _ = _
                    omega
                  have dle : decide ((en : Int) < (s.size : Int)) = false := by simp; omega
                  have hle' : ¬ (en : Int) < (s.size : Int) := by omega
                  go_wp2_with fail
                  go_quiet (fail)
                  go_wp2_with fail
                  go_ret2
                  exact se_post HF.out (by rw [HN.out]; rfl) rfl (below_drewN hb2 _)
            · have HM : Hid (¬ 3 ≤ rn (Bt s) s.size b.toNat j) := hcl
              have HN : Hid (strEnd (Bt s) s.size i = res (Bt s) s.size b.toNat 3 (j + 1) l) := HR.out.trans (res_next hlt H10.out HE.out hcl)
              clear hcl
              go_wp2_with (go_at_call 22; refine (hp_no s b 3 j _ HP3 HM _).mono ?_; rintro e w2 ⟨rfl, rfl⟩)
              go_roundg (gk - 1)
              case measure => omega
              case rel => exact ⟨j + 1, l, by omega, by omega, by omega, by go_num, rfl, HN.out, hbr⟩
      · have HN : Hid (strEnd (Bt s) s.size i = (s.size, l)) := HR.out.trans (res_out hlt)
        have hlt' : ¬ (j : Int) < (s.size : Int) := by omega
        go_wp2_with fail
        go_ret2
        exact se_post HN.out rfl rfl hbr

end Go.Proofs.Qxb6601240a
