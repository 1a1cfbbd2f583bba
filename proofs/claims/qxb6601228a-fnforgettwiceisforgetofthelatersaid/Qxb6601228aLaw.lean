import Derived.Test.Qxb6601228aState
namespace Go.Proofs.Qxb6601228a
open Go.RowKit

theorem meet {F a b m F1 : Int} {n ka kb km : Nat} (h1 : ∀ j : Nat, j < ka → F + 60 * (j : Int) < a) (h2 : ka < n → a ≤ F + 60 * (ka : Int)) (hkb : ka + kb ≤ n)
    (h3 : ∀ j : Nat, j < kb → F1 + 60 * (j : Int) < b) (h4 : ka + kb < n → b ≤ F1 + 60 * (kb : Int)) (hF1 : ka < n → F1 = F + 60 * (ka : Int)) (hkm : km ≤ n)
    (h5 : ∀ j : Nat, j < km → F + 60 * (j : Int) < m) (h6 : km < n → m ≤ F + 60 * (km : Int)) (hm : (m = a ∧ b ≤ a) ∨ (m = b ∧ a < b)) : ka + kb = km := by
  rcases Nat.lt_trichotomy (ka + kb) km with h | h | h
  · exfalso
    have e1 := h5 (ka + kb) h
    have e2 := h4 (by omega)
    have e3 := hF1 (by omega)
    have e4 := h2 (by omega)
    omega
  · exact h
  · exfalso
    have e1 := h6 (by omega)
    by_cases hk : km < ka
    · have e2 := h1 km hk
      omega
    · have e2 := h3 (km - ka) (by omega)
      have e3 := hF1 (by omega)
      omega

theorem firsts (F : Int) (ka kb : Nat) :
    wrap64 (wrap64 (F + 60 * (ka : Int)) + 60 * (kb : Int)) = wrap64 (F + 60 * ((ka + kb : Nat) : Int)) := by
  unfold wrap64; omega

theorem wrap64_lo (x : Int) : -9223372036854775808 ≤ wrap64 x := by unfold wrap64; omega
theorem wrap64_hi (x : Int) : wrap64 x ≤ 9223372036854775807 := by unfold wrap64; omega

set_option maxHeartbeats 1000000 in
theorem law_pb (F a b : Int) (v : Option Addr) (n c : Nat) (A : Nat → List Value) (w : World) (hn : n ≤ 65536) (hA : Ok16 n A) (hnil : v = none → n = 0 ∧ c = 0) (hsrc : Src w v n A)
    (hF0 : -9223372036854775808 ≤ F) (hF : 0 < n → F + 60 * ((n : Int) - 1) ≤ 9223372036854775807) (hpos : (0 : Int) < (n : Int)) (hab : a < b) :
    Calls Try.prog 6 #[.int .i64 F, .slice v n c, .int .i64 a, .int .i64 b] w fun e w' => e = .returned (.bool true) ∧ Below w.heap.size w w' := by
  have hF' := hF (by omega)
  go_enter Try.func6, Try.ntmps6
  go_wp2_with fail
  refine (bytes_any _ _ _ _ _ _ _).mono ?_
  rintro e w' ⟨hr, rfl⟩
  rcases hr with rfl | rfl
  · go_wp2_with fail
    refine (clone_all v n c A _ hn hA hnil hsrc).mono ?_
    rintro e w1 ⟨v1, rfl, src1, bel1⟩
    go_wp2_with fail
    refine (new_all F v1 n n A _ hn hA src1).mono ?_
    rintro e w2 ⟨s1, p1, rfl, st1, hs1, hp1, bel2⟩
    go_wp2_with fail
    refine (peppers_any s1 _ _ _ _ st1.c1).mono ?_
    rintro e w' ⟨rfl, rfl⟩
    go_wp2_with fail
    refine (forget_all a _ hn st1 hF0 (fun h => by have := hF h; simpa using this)).mono ?_
    rintro e w3 ⟨ka, O1, rfl, hka, ha1, ha2, st3, keep3, sz3⟩
    have H3 : Hid (w3.heap.size = w2.heap.size) := sz3
    clear sz3
    go_wp2_with fail
    refine (forget_all b _ hn st3 (wrap64_lo _) (fun hlt => by have := hF (by omega); rw [wrap64_in (by omega) (by omega)]; omega)).mono ?_
    rintro e w4 ⟨kb, O2, rfl, hkb, hb1, hb2, st4, keep4, sz4⟩
    have H4 : Hid (w4.heap.size = w3.heap.size) := sz4
    clear sz4
    have bel4 : Below w1.heap.size w1 w4 := keep4 _ _ hs1 hp1 (keep3 _ _ hs1 hp1 bel2)
    have bel04 : Below w.heap.size w w4 := bel1.trans (bel4.mono bel1.size)
    go_wp2_with fail
    refine (new_all F v1 n n A _ hn hA (src1.below bel4)).mono ?_
    rintro e w5 ⟨s2, p2, rfl, st5, hs2, hp2, bel5⟩
    go_wp2_with fail
    refine (peppers_any s2 _ _ _ _ st5.c1).mono ?_
    rintro e w' ⟨rfl, rfl⟩
    go_wp2_with fail
    refine (forget_all b _ hn st5 hF0 (fun h => by have := hF h; simpa using this)).mono ?_
    rintro e w6 ⟨km, O3, rfl, hkm, hm1, hm2, st6, keep6, sz6⟩
    have H6 : Hid (w6.heap.size = w5.heap.size) := sz6
    clear sz6
    have bel6 : Below w4.heap.size w4 w6 := keep6 _ _ hs2 hp2 bel5
    have st46 := st4.below bel6 st4.hs st4.hp
    have HK : Hid (0 + ka + kb = 0 + km) := by
      have hh := meet (m := b) (n := n) ha1 (fun h => ha2 (by omega)) (by omega) hb1 (fun h => hb2 (by omega)) (fun h => by have := hF (by omega); exact wrap64_in (by omega) (by omega)) (by omega) hm1 (fun h => hm2 (by omega)) (by omega)
      show _ = _
      omega
    have HE : Hid (wrap64 (wrap64 (F + 60 * (ka : Int)) + 60 * (kb : Int)) = wrap64 (F + 60 * (km : Int))) := by
      have e1 := HK.out
      have e2 := firsts F ka kb
      rw [show ka + kb = km by omega] at e2
      exact e2
    rw [HK.out, HE.out] at st46
    clear st5 st4 st3 st1 keep3 keep4 keep6 ha1 ha2 hb1 hb2 hm1 hm2
    go_wp2_with fail
    refine (same_all _ hn hA st46 st6).mono ?_
    rintro e w7 ⟨rfl, bel7⟩
    have r1 : ∀ i, i < n → w7.rangeAt p1 (16 * i) (if i < 0 + km then zs 1 else A i) := fun i hi => rangeAt_below bel7 (st46.rg i hi) st46.hp
    have r2 : ∀ i, i < n → w7.rangeAt p2 (16 * i) (if i < 0 + km then zs 1 else A i) := fun i hi => rangeAt_below bel7 (st6.rg i hi) st6.hp
    have q1 : p1 < w7.heap.size := Nat.lt_of_lt_of_le st46.hp bel7.size
    have q2 : p2 < w7.heap.size := Nat.lt_of_lt_of_le st6.hp bel7.size
    have bel07 : Below w.heap.size w w7 := (bel04.trans (bel6.mono bel04.size)).trans (bel7.mono (Nat.le_trans bel04.size bel6.size))
    obtain ⟨BB, hBB⟩ : ∃ BB : Nat → List Value, BB = fun i => if i < 0 + km then zs 1 else A i := ⟨_, rfl⟩
    have okB : Ok16 n BB := by rw [hBB]; exact ok_dropped hA
    have r1' : ∀ i, i < n → w7.rangeAt p1 (16 * i) (BB i) := by rw [hBB]; exact r1
    have r2' : ∀ i, i < n → w7.rangeAt p2 (16 * i) (BB i) := by rw [hBB]; exact r2
    clear r1 r2 hBB st46 st6 bel4 bel6 bel5 bel2 bel7 bel04 bel1
    go_wp2_with fail
    go_loopw [15] (fun i wr => ∃ k : Nat, k ≤ n ∧ i = .int .i64 k ∧ Below w7.heap.size w7 wr) (fun i _ => n - (intOf i).toNat)
    case atStart => exact ⟨0, Nat.zero_le _, rfl, Below.refl _ _⟩
    case round =>
      obtain ⟨k, hk, rfl, hbel⟩ := hrel
      by_cases hlt : k < n
      · have hl : (BB k).length = 16 := (okB k hlt).1
        have HC : wr.rangeAt p1 (k * 16) (BB k) := by rw [Nat.mul_comm k 16]; exact rangeAt_below hbel (r1' k hlt) q1
        have HD : wr.rangeAt p2 (k * 16) (BB k) := by rw [Nat.mul_comm k 16]; exact rangeAt_below hbel (r2' k hlt) q2
        have heq := equal16 (BB k) hl (okB k hlt).2
        have HD2 := World.rangeAt_alloc HD (.cells (BB k).toArray 27)
        have L1 := World.rangeAt_alloc (range_new1 wr (BB k) 27) (.cells (BB k).toArray 27)
        have L2 := range_new2 wr (BB k) (BB k) 27 27
        have hsA : (wr.alloc (.cells (BB k).toArray 27)).heap.size = wr.heap.size + 1 := by simp
        have HL : Hid ((BB k).length = 16) := hl
        have H1 : Hid ((wr.alloc (.cells (BB k).toArray 27)).heap.size = wr.heap.size + 1) := hsA
        have HB := (okB k hlt).2
        clear hl hsA
        go_wp2_with ((with_reducible refine isWpList ?_); first
          | (refine ld28 (.tmp 82) ?_ ?_ p1 (k * 16) (BB k) ?_ HL ?_ ?_; rfl; rfl; exact HC; rfl)
          | (refine st27 (.tmp 16) (.tmp 83) ?_ ?_ wr ?_ wr.heap.size ?_ (BB k) HL HB ?_ ?_ ?_; rfl; rfl; rfl; rfl; rfl; rfl)
          | (refine ld28 (.tmp 86) ?_ ?_ p2 (k * 16) (BB k) ?_ HL ?_ ?_; rfl; rfl; exact HD2; rfl)
          | (refine st27 (.tmp 17) (.tmp 87) ?_ ?_ (wr.alloc (.cells (BB k).toArray 27)) ?_ (wr.heap.size + 1) ?_ (BB k) HL HB ?_ ?_ ?_; rfl; rfl; rfl; exact H1; rfl; rfl)
          | (refine ld27 (.tmp 16) ?_ ?_ wr.heap.size 0 (BB k) ?_ HL ?_ ?_; rfl; rfl; exact L1; rfl)
          | (refine ld27 (.tmp 17) ?_ ?_ (wr.heap.size + 1) 0 (BB k) ?_ HL ?_ ?_; rfl; rfl; exact L2; rfl))
        go_roundw
        case rel => exact ⟨k + 1, by omega, by go_num, (hbel.alloc hbel.size _).alloc (by have := hbel.size; simp; omega) _⟩
        case measure => simp [intOf]; omega
      · go_wp2
        go_ret
        exact ⟨rfl, bel07.trans (hbel.mono bel07.size)⟩
  · go_wp2
    go_ret
    exact ⟨rfl, Below.refl _ _⟩

set_option maxHeartbeats 1000000 in
theorem law_pa (F a b : Int) (v : Option Addr) (n c : Nat) (A : Nat → List Value) (w : World) (hn : n ≤ 65536) (hA : Ok16 n A) (hnil : v = none → n = 0 ∧ c = 0) (hsrc : Src w v n A)
    (hF0 : -9223372036854775808 ≤ F) (hF : 0 < n → F + 60 * ((n : Int) - 1) ≤ 9223372036854775807) (hpos : (0 : Int) < (n : Int)) (hab : ¬ a < b) :
    Calls Try.prog 6 #[.int .i64 F, .slice v n c, .int .i64 a, .int .i64 b] w fun e w' => e = .returned (.bool true) ∧ Below w.heap.size w w' := by
  have hF' := hF (by omega)
  go_enter Try.func6, Try.ntmps6
  go_wp2_with fail
  refine (bytes_any _ _ _ _ _ _ _).mono ?_
  rintro e w' ⟨hr, rfl⟩
  rcases hr with rfl | rfl
  · go_wp2_with fail
    refine (clone_all v n c A _ hn hA hnil hsrc).mono ?_
    rintro e w1 ⟨v1, rfl, src1, bel1⟩
    go_wp2_with fail
    refine (new_all F v1 n n A _ hn hA src1).mono ?_
    rintro e w2 ⟨s1, p1, rfl, st1, hs1, hp1, bel2⟩
    go_wp2_with fail
    refine (peppers_any s1 _ _ _ _ st1.c1).mono ?_
    rintro e w' ⟨rfl, rfl⟩
    go_wp2_with fail
    refine (forget_all a _ hn st1 hF0 (fun h => by have := hF h; simpa using this)).mono ?_
    rintro e w3 ⟨ka, O1, rfl, hka, ha1, ha2, st3, keep3, sz3⟩
    have H3 : Hid (w3.heap.size = w2.heap.size) := sz3
    clear sz3
    go_wp2_with fail
    refine (forget_all b _ hn st3 (wrap64_lo _) (fun hlt => by have := hF (by omega); rw [wrap64_in (by omega) (by omega)]; omega)).mono ?_
    rintro e w4 ⟨kb, O2, rfl, hkb, hb1, hb2, st4, keep4, sz4⟩
    have H4 : Hid (w4.heap.size = w3.heap.size) := sz4
    clear sz4
    have bel4 : Below w1.heap.size w1 w4 := keep4 _ _ hs1 hp1 (keep3 _ _ hs1 hp1 bel2)
    have bel04 : Below w.heap.size w w4 := bel1.trans (bel4.mono bel1.size)
    go_wp2_with fail
    refine (new_all F v1 n n A _ hn hA (src1.below bel4)).mono ?_
    rintro e w5 ⟨s2, p2, rfl, st5, hs2, hp2, bel5⟩
    go_wp2_with fail
    refine (peppers_any s2 _ _ _ _ st5.c1).mono ?_
    rintro e w' ⟨rfl, rfl⟩
    go_wp2_with fail
    refine (forget_all a _ hn st5 hF0 (fun h => by have := hF h; simpa using this)).mono ?_
    rintro e w6 ⟨km, O3, rfl, hkm, hm1, hm2, st6, keep6, sz6⟩
    have H6 : Hid (w6.heap.size = w5.heap.size) := sz6
    clear sz6
    have bel6 : Below w4.heap.size w4 w6 := keep6 _ _ hs2 hp2 bel5
    have st46 := st4.below bel6 st4.hs st4.hp
    have HK : Hid (0 + ka + kb = 0 + km) := by
      have hh := meet (m := a) (n := n) ha1 (fun h => ha2 (by omega)) (by omega) hb1 (fun h => hb2 (by omega)) (fun h => by have := hF (by omega); exact wrap64_in (by omega) (by omega)) (by omega) hm1 (fun h => hm2 (by omega)) (by omega)
      show _ = _
      omega
    have HE : Hid (wrap64 (wrap64 (F + 60 * (ka : Int)) + 60 * (kb : Int)) = wrap64 (F + 60 * (km : Int))) := by
      have e1 := HK.out
      have e2 := firsts F ka kb
      rw [show ka + kb = km by omega] at e2
      exact e2
    rw [HK.out, HE.out] at st46
    clear st5 st4 st3 st1 keep3 keep4 keep6 ha1 ha2 hb1 hb2 hm1 hm2
    go_wp2_with fail
    refine (same_all _ hn hA st46 st6).mono ?_
    rintro e w7 ⟨rfl, bel7⟩
    have r1 : ∀ i, i < n → w7.rangeAt p1 (16 * i) (if i < 0 + km then zs 1 else A i) := fun i hi => rangeAt_below bel7 (st46.rg i hi) st46.hp
    have r2 : ∀ i, i < n → w7.rangeAt p2 (16 * i) (if i < 0 + km then zs 1 else A i) := fun i hi => rangeAt_below bel7 (st6.rg i hi) st6.hp
    have q1 : p1 < w7.heap.size := Nat.lt_of_lt_of_le st46.hp bel7.size
    have q2 : p2 < w7.heap.size := Nat.lt_of_lt_of_le st6.hp bel7.size
    have bel07 : Below w.heap.size w w7 := (bel04.trans (bel6.mono bel04.size)).trans (bel7.mono (Nat.le_trans bel04.size bel6.size))
    obtain ⟨BB, hBB⟩ : ∃ BB : Nat → List Value, BB = fun i => if i < 0 + km then zs 1 else A i := ⟨_, rfl⟩
    have okB : Ok16 n BB := by rw [hBB]; exact ok_dropped hA
    have r1' : ∀ i, i < n → w7.rangeAt p1 (16 * i) (BB i) := by rw [hBB]; exact r1
    have r2' : ∀ i, i < n → w7.rangeAt p2 (16 * i) (BB i) := by rw [hBB]; exact r2
    clear r1 r2 hBB st46 st6 bel4 bel6 bel5 bel2 bel7 bel04 bel1
    go_wp2_with fail
    go_loopw [15] (fun i wr => ∃ k : Nat, k ≤ n ∧ i = .int .i64 k ∧ Below w7.heap.size w7 wr) (fun i _ => n - (intOf i).toNat)
    case atStart => exact ⟨0, Nat.zero_le _, rfl, Below.refl _ _⟩
    case round =>
      obtain ⟨k, hk, rfl, hbel⟩ := hrel
      by_cases hlt : k < n
      · have hl : (BB k).length = 16 := (okB k hlt).1
        have HC : wr.rangeAt p1 (k * 16) (BB k) := by rw [Nat.mul_comm k 16]; exact rangeAt_below hbel (r1' k hlt) q1
        have HD : wr.rangeAt p2 (k * 16) (BB k) := by rw [Nat.mul_comm k 16]; exact rangeAt_below hbel (r2' k hlt) q2
        have heq := equal16 (BB k) hl (okB k hlt).2
        have HD2 := World.rangeAt_alloc HD (.cells (BB k).toArray 27)
        have L1 := World.rangeAt_alloc (range_new1 wr (BB k) 27) (.cells (BB k).toArray 27)
        have L2 := range_new2 wr (BB k) (BB k) 27 27
        have hsA : (wr.alloc (.cells (BB k).toArray 27)).heap.size = wr.heap.size + 1 := by simp
        have HL : Hid ((BB k).length = 16) := hl
        have H1 : Hid ((wr.alloc (.cells (BB k).toArray 27)).heap.size = wr.heap.size + 1) := hsA
        have HB := (okB k hlt).2
        clear hl hsA
        go_wp2_with ((with_reducible refine isWpList ?_); first
          | (refine ld28 (.tmp 82) ?_ ?_ p1 (k * 16) (BB k) ?_ HL ?_ ?_; rfl; rfl; exact HC; rfl)
          | (refine st27 (.tmp 16) (.tmp 83) ?_ ?_ wr ?_ wr.heap.size ?_ (BB k) HL HB ?_ ?_ ?_; rfl; rfl; rfl; rfl; rfl; rfl)
          | (refine ld28 (.tmp 86) ?_ ?_ p2 (k * 16) (BB k) ?_ HL ?_ ?_; rfl; rfl; exact HD2; rfl)
          | (refine st27 (.tmp 17) (.tmp 87) ?_ ?_ (wr.alloc (.cells (BB k).toArray 27)) ?_ (wr.heap.size + 1) ?_ (BB k) HL HB ?_ ?_ ?_; rfl; rfl; rfl; exact H1; rfl; rfl)
          | (refine ld27 (.tmp 16) ?_ ?_ wr.heap.size 0 (BB k) ?_ HL ?_ ?_; rfl; rfl; exact L1; rfl)
          | (refine ld27 (.tmp 17) ?_ ?_ (wr.heap.size + 1) 0 (BB k) ?_ HL ?_ ?_; rfl; rfl; exact L2; rfl))
        go_roundw
        case rel => exact ⟨k + 1, by omega, by go_num, (hbel.alloc hbel.size _).alloc (by have := hbel.size; simp; omega) _⟩
        case measure => simp [intOf]; omega
      · go_wp2
        go_ret
        exact ⟨rfl, bel07.trans (hbel.mono bel07.size)⟩
  · go_wp2
    go_ret
    exact ⟨rfl, Below.refl _ _⟩

set_option maxHeartbeats 1000000 in
theorem law_zb (F a b : Int) (v : Option Addr) (n c : Nat) (A : Nat → List Value) (w : World) (hn : n ≤ 65536) (hA : Ok16 n A) (hnil : v = none → n = 0 ∧ c = 0) (hsrc : Src w v n A)
    (hF0 : -9223372036854775808 ≤ F) (hF : 0 < n → F + 60 * ((n : Int) - 1) ≤ 9223372036854775807) (hpos : ¬ (0 : Int) < (n : Int)) (hab : a < b) :
    Calls Try.prog 6 #[.int .i64 F, .slice v n c, .int .i64 a, .int .i64 b] w fun e w' => e = .returned (.bool true) ∧ Below w.heap.size w w' := by
  go_enter Try.func6, Try.ntmps6
  go_wp2_with fail
  refine (bytes_any _ _ _ _ _ _ _).mono ?_
  rintro e w' ⟨hr, rfl⟩
  rcases hr with rfl | rfl
  · go_wp2_with fail
    refine (clone_all v n c A _ hn hA hnil hsrc).mono ?_
    rintro e w1 ⟨v1, rfl, src1, bel1⟩
    go_wp2_with fail
    refine (new_all F v1 n n A _ hn hA src1).mono ?_
    rintro e w2 ⟨s1, p1, rfl, st1, hs1, hp1, bel2⟩
    go_wp2_with fail
    refine (peppers_any s1 _ _ _ _ st1.c1).mono ?_
    rintro e w' ⟨rfl, rfl⟩
    go_wp2_with fail
    refine (forget_all a _ hn st1 hF0 (fun h => by have := hF h; simpa using this)).mono ?_
    rintro e w3 ⟨ka, O1, rfl, hka, ha1, ha2, st3, keep3, sz3⟩
    have H3 : Hid (w3.heap.size = w2.heap.size) := sz3
    clear sz3
    go_wp2_with fail
    refine (forget_all b _ hn st3 (wrap64_lo _) (fun hlt => by have := hF (by omega); rw [wrap64_in (by omega) (by omega)]; omega)).mono ?_
    rintro e w4 ⟨kb, O2, rfl, hkb, hb1, hb2, st4, keep4, sz4⟩
    have H4 : Hid (w4.heap.size = w3.heap.size) := sz4
    clear sz4
    have bel4 : Below w1.heap.size w1 w4 := keep4 _ _ hs1 hp1 (keep3 _ _ hs1 hp1 bel2)
    have bel04 : Below w.heap.size w w4 := bel1.trans (bel4.mono bel1.size)
    go_wp2_with fail
    refine (new_all F v1 n n A _ hn hA (src1.below bel4)).mono ?_
    rintro e w5 ⟨s2, p2, rfl, st5, hs2, hp2, bel5⟩
    go_wp2_with fail
    refine (peppers_any s2 _ _ _ _ st5.c1).mono ?_
    rintro e w' ⟨rfl, rfl⟩
    go_wp2_with fail
    refine (forget_all b _ hn st5 hF0 (fun h => by have := hF h; simpa using this)).mono ?_
    rintro e w6 ⟨km, O3, rfl, hkm, hm1, hm2, st6, keep6, sz6⟩
    have H6 : Hid (w6.heap.size = w5.heap.size) := sz6
    clear sz6
    have bel6 : Below w4.heap.size w4 w6 := keep6 _ _ hs2 hp2 bel5
    have st46 := st4.below bel6 st4.hs st4.hp
    have HK : Hid (0 + ka + kb = 0 + km) := by
      have hh := meet (m := b) (n := n) ha1 (fun h => ha2 (by omega)) (by omega) hb1 (fun h => hb2 (by omega)) (fun h => by have := hF (by omega); exact wrap64_in (by omega) (by omega)) (by omega) hm1 (fun h => hm2 (by omega)) (by omega)
      show _ = _
      omega
    have HE : Hid (wrap64 (wrap64 (F + 60 * (ka : Int)) + 60 * (kb : Int)) = wrap64 (F + 60 * (km : Int))) := by
      have e1 := HK.out
      have e2 := firsts F ka kb
      rw [show ka + kb = km by omega] at e2
      exact e2
    rw [HK.out, HE.out] at st46
    clear st5 st4 st3 st1 keep3 keep4 keep6 ha1 ha2 hb1 hb2 hm1 hm2
    go_wp2_with fail
    refine (same_all _ hn hA st46 st6).mono ?_
    rintro e w7 ⟨rfl, bel7⟩
    have r1 : ∀ i, i < n → w7.rangeAt p1 (16 * i) (if i < 0 + km then zs 1 else A i) := fun i hi => rangeAt_below bel7 (st46.rg i hi) st46.hp
    have r2 : ∀ i, i < n → w7.rangeAt p2 (16 * i) (if i < 0 + km then zs 1 else A i) := fun i hi => rangeAt_below bel7 (st6.rg i hi) st6.hp
    have q1 : p1 < w7.heap.size := Nat.lt_of_lt_of_le st46.hp bel7.size
    have q2 : p2 < w7.heap.size := Nat.lt_of_lt_of_le st6.hp bel7.size
    have bel07 : Below w.heap.size w w7 := (bel04.trans (bel6.mono bel04.size)).trans (bel7.mono (Nat.le_trans bel04.size bel6.size))
    obtain ⟨BB, hBB⟩ : ∃ BB : Nat → List Value, BB = fun i => if i < 0 + km then zs 1 else A i := ⟨_, rfl⟩
    have okB : Ok16 n BB := by rw [hBB]; exact ok_dropped hA
    have r1' : ∀ i, i < n → w7.rangeAt p1 (16 * i) (BB i) := by rw [hBB]; exact r1
    have r2' : ∀ i, i < n → w7.rangeAt p2 (16 * i) (BB i) := by rw [hBB]; exact r2
    clear r1 r2 hBB st46 st6 bel4 bel6 bel5 bel2 bel7 bel04 bel1
    go_wp2_with fail
    go_loopw [15] (fun i wr => ∃ k : Nat, k ≤ n ∧ i = .int .i64 k ∧ Below w7.heap.size w7 wr) (fun i _ => n - (intOf i).toNat)
    case atStart => exact ⟨0, Nat.zero_le _, rfl, Below.refl _ _⟩
    case round =>
      obtain ⟨k, hk, rfl, hbel⟩ := hrel
      by_cases hlt : k < n
      · have hl : (BB k).length = 16 := (okB k hlt).1
        have HC : wr.rangeAt p1 (k * 16) (BB k) := by rw [Nat.mul_comm k 16]; exact rangeAt_below hbel (r1' k hlt) q1
        have HD : wr.rangeAt p2 (k * 16) (BB k) := by rw [Nat.mul_comm k 16]; exact rangeAt_below hbel (r2' k hlt) q2
        have heq := equal16 (BB k) hl (okB k hlt).2
        have HD2 := World.rangeAt_alloc HD (.cells (BB k).toArray 27)
        have L1 := World.rangeAt_alloc (range_new1 wr (BB k) 27) (.cells (BB k).toArray 27)
        have L2 := range_new2 wr (BB k) (BB k) 27 27
        have hsA : (wr.alloc (.cells (BB k).toArray 27)).heap.size = wr.heap.size + 1 := by simp
        have HL : Hid ((BB k).length = 16) := hl
        have H1 : Hid ((wr.alloc (.cells (BB k).toArray 27)).heap.size = wr.heap.size + 1) := hsA
        have HB := (okB k hlt).2
        clear hl hsA
        go_wp2_with ((with_reducible refine isWpList ?_); first
          | (refine ld28 (.tmp 82) ?_ ?_ p1 (k * 16) (BB k) ?_ HL ?_ ?_; rfl; rfl; exact HC; rfl)
          | (refine st27 (.tmp 16) (.tmp 83) ?_ ?_ wr ?_ wr.heap.size ?_ (BB k) HL HB ?_ ?_ ?_; rfl; rfl; rfl; rfl; rfl; rfl)
          | (refine ld28 (.tmp 86) ?_ ?_ p2 (k * 16) (BB k) ?_ HL ?_ ?_; rfl; rfl; exact HD2; rfl)
          | (refine st27 (.tmp 17) (.tmp 87) ?_ ?_ (wr.alloc (.cells (BB k).toArray 27)) ?_ (wr.heap.size + 1) ?_ (BB k) HL HB ?_ ?_ ?_; rfl; rfl; rfl; exact H1; rfl; rfl)
          | (refine ld27 (.tmp 16) ?_ ?_ wr.heap.size 0 (BB k) ?_ HL ?_ ?_; rfl; rfl; exact L1; rfl)
          | (refine ld27 (.tmp 17) ?_ ?_ (wr.heap.size + 1) 0 (BB k) ?_ HL ?_ ?_; rfl; rfl; exact L2; rfl))
        go_roundw
        case rel => exact ⟨k + 1, by omega, by go_num, (hbel.alloc hbel.size _).alloc (by have := hbel.size; simp; omega) _⟩
        case measure => simp [intOf]; omega
      · go_wp2
        go_ret
        exact ⟨rfl, bel07.trans (hbel.mono bel07.size)⟩
  · go_wp2
    go_ret
    exact ⟨rfl, Below.refl _ _⟩

set_option maxHeartbeats 1000000 in
theorem law_za (F a b : Int) (v : Option Addr) (n c : Nat) (A : Nat → List Value) (w : World) (hn : n ≤ 65536) (hA : Ok16 n A) (hnil : v = none → n = 0 ∧ c = 0) (hsrc : Src w v n A)
    (hF0 : -9223372036854775808 ≤ F) (hF : 0 < n → F + 60 * ((n : Int) - 1) ≤ 9223372036854775807) (hpos : ¬ (0 : Int) < (n : Int)) (hab : ¬ a < b) :
    Calls Try.prog 6 #[.int .i64 F, .slice v n c, .int .i64 a, .int .i64 b] w fun e w' => e = .returned (.bool true) ∧ Below w.heap.size w w' := by
  go_enter Try.func6, Try.ntmps6
  go_wp2_with fail
  refine (bytes_any _ _ _ _ _ _ _).mono ?_
  rintro e w' ⟨hr, rfl⟩
  rcases hr with rfl | rfl
  · go_wp2_with fail
    refine (clone_all v n c A _ hn hA hnil hsrc).mono ?_
    rintro e w1 ⟨v1, rfl, src1, bel1⟩
    go_wp2_with fail
    refine (new_all F v1 n n A _ hn hA src1).mono ?_
    rintro e w2 ⟨s1, p1, rfl, st1, hs1, hp1, bel2⟩
    go_wp2_with fail
    refine (peppers_any s1 _ _ _ _ st1.c1).mono ?_
    rintro e w' ⟨rfl, rfl⟩
    go_wp2_with fail
    refine (forget_all a _ hn st1 hF0 (fun h => by have := hF h; simpa using this)).mono ?_
    rintro e w3 ⟨ka, O1, rfl, hka, ha1, ha2, st3, keep3, sz3⟩
    have H3 : Hid (w3.heap.size = w2.heap.size) := sz3
    clear sz3
    go_wp2_with fail
    refine (forget_all b _ hn st3 (wrap64_lo _) (fun hlt => by have := hF (by omega); rw [wrap64_in (by omega) (by omega)]; omega)).mono ?_
    rintro e w4 ⟨kb, O2, rfl, hkb, hb1, hb2, st4, keep4, sz4⟩
    have H4 : Hid (w4.heap.size = w3.heap.size) := sz4
    clear sz4
    have bel4 : Below w1.heap.size w1 w4 := keep4 _ _ hs1 hp1 (keep3 _ _ hs1 hp1 bel2)
    have bel04 : Below w.heap.size w w4 := bel1.trans (bel4.mono bel1.size)
    go_wp2_with fail
    refine (new_all F v1 n n A _ hn hA (src1.below bel4)).mono ?_
    rintro e w5 ⟨s2, p2, rfl, st5, hs2, hp2, bel5⟩
    go_wp2_with fail
    refine (peppers_any s2 _ _ _ _ st5.c1).mono ?_
    rintro e w' ⟨rfl, rfl⟩
    go_wp2_with fail
    refine (forget_all a _ hn st5 hF0 (fun h => by have := hF h; simpa using this)).mono ?_
    rintro e w6 ⟨km, O3, rfl, hkm, hm1, hm2, st6, keep6, sz6⟩
    have H6 : Hid (w6.heap.size = w5.heap.size) := sz6
    clear sz6
    have bel6 : Below w4.heap.size w4 w6 := keep6 _ _ hs2 hp2 bel5
    have st46 := st4.below bel6 st4.hs st4.hp
    have HK : Hid (0 + ka + kb = 0 + km) := by
      have hh := meet (m := a) (n := n) ha1 (fun h => ha2 (by omega)) (by omega) hb1 (fun h => hb2 (by omega)) (fun h => by have := hF (by omega); exact wrap64_in (by omega) (by omega)) (by omega) hm1 (fun h => hm2 (by omega)) (by omega)
      show _ = _
      omega
    have HE : Hid (wrap64 (wrap64 (F + 60 * (ka : Int)) + 60 * (kb : Int)) = wrap64 (F + 60 * (km : Int))) := by
      have e1 := HK.out
      have e2 := firsts F ka kb
      rw [show ka + kb = km by omega] at e2
      exact e2
    rw [HK.out, HE.out] at st46
    clear st5 st4 st3 st1 keep3 keep4 keep6 ha1 ha2 hb1 hb2 hm1 hm2
    go_wp2_with fail
    refine (same_all _ hn hA st46 st6).mono ?_
    rintro e w7 ⟨rfl, bel7⟩
    have r1 : ∀ i, i < n → w7.rangeAt p1 (16 * i) (if i < 0 + km then zs 1 else A i) := fun i hi => rangeAt_below bel7 (st46.rg i hi) st46.hp
    have r2 : ∀ i, i < n → w7.rangeAt p2 (16 * i) (if i < 0 + km then zs 1 else A i) := fun i hi => rangeAt_below bel7 (st6.rg i hi) st6.hp
    have q1 : p1 < w7.heap.size := Nat.lt_of_lt_of_le st46.hp bel7.size
    have q2 : p2 < w7.heap.size := Nat.lt_of_lt_of_le st6.hp bel7.size
    have bel07 : Below w.heap.size w w7 := (bel04.trans (bel6.mono bel04.size)).trans (bel7.mono (Nat.le_trans bel04.size bel6.size))
    obtain ⟨BB, hBB⟩ : ∃ BB : Nat → List Value, BB = fun i => if i < 0 + km then zs 1 else A i := ⟨_, rfl⟩
    have okB : Ok16 n BB := by rw [hBB]; exact ok_dropped hA
    have r1' : ∀ i, i < n → w7.rangeAt p1 (16 * i) (BB i) := by rw [hBB]; exact r1
    have r2' : ∀ i, i < n → w7.rangeAt p2 (16 * i) (BB i) := by rw [hBB]; exact r2
    clear r1 r2 hBB st46 st6 bel4 bel6 bel5 bel2 bel7 bel04 bel1
    go_wp2_with fail
    go_loopw [15] (fun i wr => ∃ k : Nat, k ≤ n ∧ i = .int .i64 k ∧ Below w7.heap.size w7 wr) (fun i _ => n - (intOf i).toNat)
    case atStart => exact ⟨0, Nat.zero_le _, rfl, Below.refl _ _⟩
    case round =>
      obtain ⟨k, hk, rfl, hbel⟩ := hrel
      by_cases hlt : k < n
      · have hl : (BB k).length = 16 := (okB k hlt).1
        have HC : wr.rangeAt p1 (k * 16) (BB k) := by rw [Nat.mul_comm k 16]; exact rangeAt_below hbel (r1' k hlt) q1
        have HD : wr.rangeAt p2 (k * 16) (BB k) := by rw [Nat.mul_comm k 16]; exact rangeAt_below hbel (r2' k hlt) q2
        have heq := equal16 (BB k) hl (okB k hlt).2
        have HD2 := World.rangeAt_alloc HD (.cells (BB k).toArray 27)
        have L1 := World.rangeAt_alloc (range_new1 wr (BB k) 27) (.cells (BB k).toArray 27)
        have L2 := range_new2 wr (BB k) (BB k) 27 27
        have hsA : (wr.alloc (.cells (BB k).toArray 27)).heap.size = wr.heap.size + 1 := by simp
        have HL : Hid ((BB k).length = 16) := hl
        have H1 : Hid ((wr.alloc (.cells (BB k).toArray 27)).heap.size = wr.heap.size + 1) := hsA
        have HB := (okB k hlt).2
        clear hl hsA
        go_wp2_with ((with_reducible refine isWpList ?_); first
          | (refine ld28 (.tmp 82) ?_ ?_ p1 (k * 16) (BB k) ?_ HL ?_ ?_; rfl; rfl; exact HC; rfl)
          | (refine st27 (.tmp 16) (.tmp 83) ?_ ?_ wr ?_ wr.heap.size ?_ (BB k) HL HB ?_ ?_ ?_; rfl; rfl; rfl; rfl; rfl; rfl)
          | (refine ld28 (.tmp 86) ?_ ?_ p2 (k * 16) (BB k) ?_ HL ?_ ?_; rfl; rfl; exact HD2; rfl)
          | (refine st27 (.tmp 17) (.tmp 87) ?_ ?_ (wr.alloc (.cells (BB k).toArray 27)) ?_ (wr.heap.size + 1) ?_ (BB k) HL HB ?_ ?_ ?_; rfl; rfl; rfl; exact H1; rfl; rfl)
          | (refine ld27 (.tmp 16) ?_ ?_ wr.heap.size 0 (BB k) ?_ HL ?_ ?_; rfl; rfl; exact L1; rfl)
          | (refine ld27 (.tmp 17) ?_ ?_ (wr.heap.size + 1) 0 (BB k) ?_ HL ?_ ?_; rfl; rfl; exact L2; rfl))
        go_roundw
        case rel => exact ⟨k + 1, by omega, by go_num, (hbel.alloc hbel.size _).alloc (by have := hbel.size; simp; omega) _⟩
        case measure => simp [intOf]; omega
      · go_wp2
        go_ret
        exact ⟨rfl, bel07.trans (hbel.mono bel07.size)⟩
  · go_wp2
    go_ret
    exact ⟨rfl, Below.refl _ _⟩

set_option maxHeartbeats 1000000 in
theorem law_far (F a b : Int) (v : Option Addr) (n c : Nat) (w : World) (hn : ¬ n ≤ 65536) :
    Calls Try.prog 6 #[.int .i64 F, .slice v n c, .int .i64 a, .int .i64 b] w fun e w' => e = .returned (.bool true) ∧ Below w.heap.size w w' := by
  have hn' : (65536 : Int) < (n : Int) := by omega
  go_enter Try.func6, Try.ntmps6
  go_wp2_with fail
  refine (bytes_any _ _ _ _ _ _ _).mono ?_
  rintro e w' ⟨hr, rfl⟩
  rcases hr with rfl | rfl
  all_goals
    go_wp2
    go_ret
    exact ⟨rfl, Below.refl _ _⟩

set_option maxHeartbeats 1000000 in
theorem law_out (F a b : Int) (v : Option Addr) (n c : Nat) (w : World) (hn : n ≤ 65536) (hpos : (0 : Int) < (n : Int)) (hF : 9223372036854775807 - ((n : Int) - 1) * 60 < F) :
    Calls Try.prog 6 #[.int .i64 F, .slice v n c, .int .i64 a, .int .i64 b] w fun e w' => e = .returned (.bool true) ∧ Below w.heap.size w w' := by
  go_enter Try.func6, Try.ntmps6
  go_wp2_with fail
  refine (bytes_any _ _ _ _ _ _ _).mono ?_
  rintro e w' ⟨hr, rfl⟩
  rcases hr with rfl | rfl
  all_goals
    go_wp2
    go_ret
    exact ⟨rfl, Below.refl _ _⟩

/-- the law, for every slice of arrays -/
theorem law_any (F a b : Int) (v : Option Addr) (n c : Nat) (A : Nat → List Value) (w : World) (hA : Ok16 n A) (hnil : v = none → n = 0 ∧ c = 0) (hsrc : Src w v n A) (hF0 : -9223372036854775808 ≤ F) :
    Calls Try.prog 6 #[.int .i64 F, .slice v n c, .int .i64 a, .int .i64 b] w fun e w' => e = .returned (.bool true) ∧ Below w.heap.size w w' := by
  by_cases hn : n ≤ 65536
  · by_cases hpos : (0 : Int) < (n : Int)
    · by_cases hF : 9223372036854775807 - ((n : Int) - 1) * 60 < F
      · exact law_out F a b v n c w hn hpos hF
      · by_cases hab : a < b
        · exact law_pb F a b v n c A w hn hA hnil hsrc hF0 (fun _ => by omega) hpos hab
        · exact law_pa F a b v n c A w hn hA hnil hsrc hF0 (fun _ => by omega) hpos hab
    · by_cases hab : a < b
      · exact law_zb F a b v n c A w hn hA hnil hsrc hF0 (fun _ => by omega) hpos hab
      · exact law_za F a b v n c A w hn hA hnil hsrc hF0 (fun _ => by omega) hpos hab
  · exact law_far F a b v n c w hn

end Go.Proofs.Qxb6601228a
