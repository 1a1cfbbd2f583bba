import Derived.Test.Qxb6001654aCmp
namespace Go.Proofs.Qxb6001654a
open Go.RowKit Plain
set_option linter.unusedVariables false

theorem hdr_any (o : Int) (s : Nat) (w : World) (h1 : 128 ≤ o) (h2 : o ≤ 192) (hs2 : s < 9223372036854775808) :
    Calls Try.prog 13 #[.slice none 0 0, .int .u8 o, .int .i64 s] w fun e w' => HdrPost o s w e w' := by
  by_cases hs : s < 56
  · exact app_short o s w h1 h2 hs
  · exact app_long o s w h1 h2 hs hs2

/-- the shape of a header's slice -/
def Shape (L : List Int) (v : Value) (w : World) : Prop :=
  ∃ g cap, v = .slice (some ⟨g, 0, none⟩) L.length cap ∧ g < w.heap.size ∧ ∀ k (h : k < L.length), w.cell? ⟨g, k, none⟩ = some (.int .u8 L[k])

theorem shape_of {L : List Int} {v : Value} {w : World} {base : Nat} (h : w.ownsRow base 5 1 v L.length (B L)) (hne : 0 < L.length) : Shape L v w := by
  obtain ⟨_, ⟨_, h0⟩ | ⟨g, cap, cur, rfl, _, hb, _, _, hc, ht⟩⟩ := h
  · omega
  · refine ⟨g, cap, rfl, (Array.getElem?_eq_some_iff.1 hb).1, fun k hk => ?_⟩
    have e1 : (B L)[k]? = some (.int .u8 L[k]) := by simp [B, hk]
    rw [← ht, Nat.mul_one, List.getElem?_take_of_lt hk] at e1
    simp only [World.cell?, hb]
    simpa using e1

theorem Shape.later {L : List Int} {v : Value} {w w' : World} (h : Shape L v w) (hb : Below w.heap.size w w') : Shape L v w' := by
  obtain ⟨g, cap, rfl, hg, hc⟩ := h
  exact ⟨g, cap, rfl, Nat.lt_of_lt_of_le hg hb.size, fun k hk => (hb.cell (p := ⟨g, k, none⟩) hg).trans (hc k hk)⟩

theorem hdr_len {o : Int} {s : Nat} {L : List Int} (h : IsHdr o s L) : 0 < L.length ∧ L.length ≤ 9 := by
  rcases h with ⟨_, rfl⟩ | ⟨_, n, tn, rfl⟩
  · simp
  · have := tn.2.1
    simp [length_be]; omega

set_option maxHeartbeats 400000 in
theorem zz_any (o : Int) (s : Nat) (w : World) (h1 : 128 ≤ o) (h2 : o ≤ 192) (hs2 : s < 9223372036854775808) :
    Calls Try.prog 8 #[.slice none 0 0, .int .u8 o, .int .i64 s] w fun e w' => HdrPost o s w e w' := by
  go_enter Try.func8, Try.ntmps8
  go_wp2_with fail
  refine (hdr_any o s _ h1 h2 hs2).mono ?_
  rintro e w1 ⟨v, L, rfl, hh, hown, hbel⟩
  go_wp2
  go_ret
  exact ⟨v, L, rfl, hh, hown, hbel⟩

theorem cmp_shape {L M : List Int} {v u : Value} {w : World} (hv : Shape L v w) (hu : Shape M u w) (hl : L.length ≤ 9) (hm : M.length ≤ 9) :
    Calls Try.prog 12 #[v, u] w fun e w' => CmpPost L M w e w' := by
  obtain ⟨g1, c1, rfl, _, h1⟩ := hv
  obtain ⟨g2, c2, rfl, _, h2⟩ := hu
  exact cmp_any g1 g2 c1 c2 _ _ L M w rfl rfl hl hm h1 h2

set_option maxHeartbeats 1000000 in
theorem law_lt128 (sa sb : Nat) (w : World) (ha : sa < 9223372036854775808) (hb : sb < 9223372036854775808) (hab : sa < sb) :
    Calls Try.prog 5 #[.int .u8 128, .int .i64 sa, .int .u8 128, .int .i64 sb] w fun e w' => e = .returned (.bool true) ∧ Below w.heap.size w w' := by
  have e1 : ((sa : Int) == (sb : Int)) = false := by simp; omega
  go_enter Try.func5, Try.ntmps5
  go_wp2_with fail
  refine (zz_any 128 sa _ (by omega) (by omega) ha).mono ?_
  rintro e w1 ⟨v1, L1, rfl, hh1, hown1, hbel1⟩
  go_wp2_with fail
  refine (zz_any 128 sb _ (by omega) (by omega) hb).mono ?_
  rintro e w2 ⟨v2, L2, rfl, hh2, hown2, hbel2⟩
  have s1 := (shape_of hown1 (hdr_len hh1).1).later hbel2
  have s2 := shape_of hown2 (hdr_len hh2).1
  have b2 : Below w.heap.size w w2 := hbel1.trans (hbel2.mono hbel1.size)
  have HC : Hid (cmp L1 L2 = -1) := (same_off hh1 hh2).trans (by unfold sgn; rw [if_pos hab])
  clear hown1 hown2 hbel1 hbel2
  go_wp2_with fail
  refine (cmp_shape s1 s2 (hdr_len hh1).2 (hdr_len hh2).2).mono ?_
  rintro e w3 ⟨rfl, q, rfl⟩
  rw [HC.out]
  go_wp2
  go_ret
  exact ⟨rfl, below_drewN b2 q⟩

set_option maxHeartbeats 1000000 in
theorem law_gt128 (sa sb : Nat) (w : World) (ha : sa < 9223372036854775808) (hb : sb < 9223372036854775808) (hab : sb < sa) :
    Calls Try.prog 5 #[.int .u8 128, .int .i64 sa, .int .u8 128, .int .i64 sb] w fun e w' => e = .returned (.bool true) ∧ Below w.heap.size w w' := by
  have e1 : ((sa : Int) == (sb : Int)) = false := by simp; omega
  have e2 : ¬ (sa : Int) < (sb : Int) := by omega
  go_enter Try.func5, Try.ntmps5
  go_wp2_with fail
  refine (zz_any 128 sa _ (by omega) (by omega) ha).mono ?_
  rintro e w1 ⟨v1, L1, rfl, hh1, hown1, hbel1⟩
  go_wp2_with fail
  refine (zz_any 128 sb _ (by omega) (by omega) hb).mono ?_
  rintro e w2 ⟨v2, L2, rfl, hh2, hown2, hbel2⟩
  have s1 := (shape_of hown1 (hdr_len hh1).1).later hbel2
  have s2 := shape_of hown2 (hdr_len hh2).1
  have b2 : Below w.heap.size w w2 := hbel1.trans (hbel2.mono hbel1.size)
  have HC : Hid (cmp L1 L2 = 1) := (same_off hh1 hh2).trans (by unfold sgn; rw [if_neg (by omega), if_pos hab])
  clear hown1 hown2 hbel1 hbel2
  go_wp2_with fail
  refine (cmp_shape s1 s2 (hdr_len hh1).2 (hdr_len hh2).2).mono ?_
  rintro e w3 ⟨rfl, q, rfl⟩
  rw [HC.out]
  go_wp2
  go_ret
  exact ⟨rfl, below_drewN b2 q⟩

set_option maxHeartbeats 1000000 in
theorem law_eq128 (sa sb : Nat) (w : World) (ha : sa < 9223372036854775808) (hb : sb < 9223372036854775808) (hab : sa = sb) :
    Calls Try.prog 5 #[.int .u8 128, .int .i64 sa, .int .u8 128, .int .i64 sb] w fun e w' => e = .returned (.bool true) ∧ Below w.heap.size w w' := by
  subst hab
  go_enter Try.func5, Try.ntmps5
  go_wp2_with fail
  refine (zz_any 128 sa _ (by omega) (by omega) ha).mono ?_
  rintro e w1 ⟨v1, L1, rfl, hh1, hown1, hbel1⟩
  go_wp2_with fail
  refine (zz_any 128 sa _ (by omega) (by omega) ha).mono ?_
  rintro e w2 ⟨v2, L2, rfl, hh2, hown2, hbel2⟩
  have s1 := (shape_of hown1 (hdr_len hh1).1).later hbel2
  have s2 := shape_of hown2 (hdr_len hh2).1
  have b2 : Below w.heap.size w w2 := hbel1.trans (hbel2.mono hbel1.size)
  have HC : Hid (cmp L1 L2 = 0) := (same_off hh1 hh2).trans (by unfold sgn; simp)
  clear hown1 hown2 hbel1 hbel2
  go_wp2_with fail
  refine (cmp_shape s1 s2 (hdr_len hh1).2 (hdr_len hh2).2).mono ?_
  rintro e w3 ⟨rfl, q, rfl⟩
  rw [HC.out]
  go_wp2
  go_ret
  exact ⟨rfl, below_drewN b2 q⟩

set_option maxHeartbeats 1000000 in
theorem law_lt192 (sa sb : Nat) (w : World) (ha : sa < 9223372036854775808) (hb : sb < 9223372036854775808) (hab : sa < sb) :
    Calls Try.prog 5 #[.int .u8 192, .int .i64 sa, .int .u8 192, .int .i64 sb] w fun e w' => e = .returned (.bool true) ∧ Below w.heap.size w w' := by
  have e1 : ((sa : Int) == (sb : Int)) = false := by simp; omega
  go_enter Try.func5, Try.ntmps5
  go_wp2_with fail
  refine (zz_any 192 sa _ (by omega) (by omega) ha).mono ?_
  rintro e w1 ⟨v1, L1, rfl, hh1, hown1, hbel1⟩
  go_wp2_with fail
  refine (zz_any 192 sb _ (by omega) (by omega) hb).mono ?_
  rintro e w2 ⟨v2, L2, rfl, hh2, hown2, hbel2⟩
  have s1 := (shape_of hown1 (hdr_len hh1).1).later hbel2
  have s2 := shape_of hown2 (hdr_len hh2).1
  have b2 : Below w.heap.size w w2 := hbel1.trans (hbel2.mono hbel1.size)
  have HC : Hid (cmp L1 L2 = -1) := (same_off hh1 hh2).trans (by unfold sgn; rw [if_pos hab])
  clear hown1 hown2 hbel1 hbel2
  go_wp2_with fail
  refine (cmp_shape s1 s2 (hdr_len hh1).2 (hdr_len hh2).2).mono ?_
  rintro e w3 ⟨rfl, q, rfl⟩
  rw [HC.out]
  go_wp2
  go_ret
  exact ⟨rfl, below_drewN b2 q⟩

set_option maxHeartbeats 1000000 in
theorem law_gt192 (sa sb : Nat) (w : World) (ha : sa < 9223372036854775808) (hb : sb < 9223372036854775808) (hab : sb < sa) :
    Calls Try.prog 5 #[.int .u8 192, .int .i64 sa, .int .u8 192, .int .i64 sb] w fun e w' => e = .returned (.bool true) ∧ Below w.heap.size w w' := by
  have e1 : ((sa : Int) == (sb : Int)) = false := by simp; omega
  have e2 : ¬ (sa : Int) < (sb : Int) := by omega
  go_enter Try.func5, Try.ntmps5
  go_wp2_with fail
  refine (zz_any 192 sa _ (by omega) (by omega) ha).mono ?_
  rintro e w1 ⟨v1, L1, rfl, hh1, hown1, hbel1⟩
  go_wp2_with fail
  refine (zz_any 192 sb _ (by omega) (by omega) hb).mono ?_
  rintro e w2 ⟨v2, L2, rfl, hh2, hown2, hbel2⟩
  have s1 := (shape_of hown1 (hdr_len hh1).1).later hbel2
  have s2 := shape_of hown2 (hdr_len hh2).1
  have b2 : Below w.heap.size w w2 := hbel1.trans (hbel2.mono hbel1.size)
  have HC : Hid (cmp L1 L2 = 1) := (same_off hh1 hh2).trans (by unfold sgn; rw [if_neg (by omega), if_pos hab])
  clear hown1 hown2 hbel1 hbel2
  go_wp2_with fail
  refine (cmp_shape s1 s2 (hdr_len hh1).2 (hdr_len hh2).2).mono ?_
  rintro e w3 ⟨rfl, q, rfl⟩
  rw [HC.out]
  go_wp2
  go_ret
  exact ⟨rfl, below_drewN b2 q⟩

set_option maxHeartbeats 1000000 in
theorem law_eq192 (sa sb : Nat) (w : World) (ha : sa < 9223372036854775808) (hb : sb < 9223372036854775808) (hab : sa = sb) :
    Calls Try.prog 5 #[.int .u8 192, .int .i64 sa, .int .u8 192, .int .i64 sb] w fun e w' => e = .returned (.bool true) ∧ Below w.heap.size w w' := by
  subst hab
  go_enter Try.func5, Try.ntmps5
  go_wp2_with fail
  refine (zz_any 192 sa _ (by omega) (by omega) ha).mono ?_
  rintro e w1 ⟨v1, L1, rfl, hh1, hown1, hbel1⟩
  go_wp2_with fail
  refine (zz_any 192 sa _ (by omega) (by omega) ha).mono ?_
  rintro e w2 ⟨v2, L2, rfl, hh2, hown2, hbel2⟩
  have s1 := (shape_of hown1 (hdr_len hh1).1).later hbel2
  have s2 := shape_of hown2 (hdr_len hh2).1
  have b2 : Below w.heap.size w w2 := hbel1.trans (hbel2.mono hbel1.size)
  have HC : Hid (cmp L1 L2 = 0) := (same_off hh1 hh2).trans (by unfold sgn; simp)
  clear hown1 hown2 hbel1 hbel2
  go_wp2_with fail
  refine (cmp_shape s1 s2 (hdr_len hh1).2 (hdr_len hh2).2).mono ?_
  rintro e w3 ⟨rfl, q, rfl⟩
  rw [HC.out]
  go_wp2
  go_ret
  exact ⟨rfl, below_drewN b2 q⟩

set_option maxHeartbeats 1000000 in
theorem law_up (sa sb : Nat) (w : World) (ha : sa < 9223372036854775808) (hb : sb < 9223372036854775808) :
    Calls Try.prog 5 #[.int .u8 128, .int .i64 sa, .int .u8 192, .int .i64 sb] w fun e w' => e = .returned (.bool true) ∧ Below w.heap.size w w' := by
  go_enter Try.func5, Try.ntmps5
  go_wp2_with fail
  refine (zz_any 128 sa _ (by omega) (by omega) ha).mono ?_
  rintro e w1 ⟨v1, L1, rfl, hh1, hown1, hbel1⟩
  go_wp2_with fail
  refine (zz_any 192 sb _ (by omega) (by omega) hb).mono ?_
  rintro e w2 ⟨v2, L2, rfl, hh2, hown2, hbel2⟩
  have s1 := (shape_of hown1 (hdr_len hh1).1).later hbel2
  have s2 := shape_of hown2 (hdr_len hh2).1
  have b2 : Below w.heap.size w w2 := hbel1.trans (hbel2.mono hbel1.size)
  have HC : Hid (cmp L1 L2 = -1) := (other_off hh1 hh2).1
  clear hown1 hown2 hbel1 hbel2
  go_wp2_with fail
  refine (cmp_shape s1 s2 (hdr_len hh1).2 (hdr_len hh2).2).mono ?_
  rintro e w3 ⟨rfl, q, rfl⟩
  rw [HC.out]
  go_wp2
  go_ret
  exact ⟨rfl, below_drewN b2 q⟩

set_option maxHeartbeats 1000000 in
theorem law_down (sa sb : Nat) (w : World) (ha : sa < 9223372036854775808) (hb : sb < 9223372036854775808) :
    Calls Try.prog 5 #[.int .u8 192, .int .i64 sa, .int .u8 128, .int .i64 sb] w fun e w' => e = .returned (.bool true) ∧ Below w.heap.size w w' := by
  go_enter Try.func5, Try.ntmps5
  go_wp2_with fail
  refine (zz_any 192 sa _ (by omega) (by omega) ha).mono ?_
  rintro e w1 ⟨v1, L1, rfl, hh1, hown1, hbel1⟩
  go_wp2_with fail
  refine (zz_any 128 sb _ (by omega) (by omega) hb).mono ?_
  rintro e w2 ⟨v2, L2, rfl, hh2, hown2, hbel2⟩
  have s1 := (shape_of hown1 (hdr_len hh1).1).later hbel2
  have s2 := shape_of hown2 (hdr_len hh2).1
  have b2 : Below w.heap.size w w2 := hbel1.trans (hbel2.mono hbel1.size)
  have HC : Hid (cmp L1 L2 = 1) := (other_off hh2 hh1).2
  clear hown1 hown2 hbel1 hbel2
  go_wp2_with fail
  refine (cmp_shape s1 s2 (hdr_len hh1).2 (hdr_len hh2).2).mono ?_
  rintro e w3 ⟨rfl, q, rfl⟩
  rw [HC.out]
  go_wp2
  go_ret
  exact ⟨rfl, below_drewN b2 q⟩

end Go.Proofs.Qxb6001654a
