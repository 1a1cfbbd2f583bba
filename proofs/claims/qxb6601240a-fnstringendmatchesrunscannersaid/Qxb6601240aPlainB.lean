import Derived.Test.Qxb6601240aPlain
namespace Go.Proofs.Qxb6601240a.Plain

/-- the run scanner -/
def scan2 (B : Nat → Nat) (n q L : Nat) : Nat → Nat → Nat
  | 0, _ => n
  | f + 1, j =>
    if ¬ j < n then n
    else if esc B n j = true then scan2 B n q L f (j + 2)
    else if ¬ B j = q then scan2 B n q L f (j + 1)
    else if L ≤ rn B n q j then (if L = 1 then j + 1 else j + rn B n q j)
    else scan2 B n q L f (j + rn B n q j)

theorem scan2_out {B : Nat → Nat} {n q L : Nat} : ∀ (f j : Nat), ¬ j < n → scan2 B n q L f j = n
  | 0, _, _ => rfl
  | f + 1, j, h => by simp only [scan2, h, not_false_eq_true, if_true]

theorem scan2_fuel {B : Nat → Nat} {n q L : Nat} : ∀ (f g j : Nat), n - j ≤ f → n - j ≤ g → scan2 B n q L f j = scan2 B n q L g j
  | 0, g, j, hf, _ => by rw [scan2_out g j (by omega)]; rfl
  | f + 1, 0, j, _, hg => by rw [scan2_out (f + 1) j (by omega)]; rfl
  | f + 1, g + 1, j, hf, hg => by
    by_cases hj : j < n
    · simp only [scan2, hj, not_true_eq_false, if_false]
      rw [scan2_fuel f g (j + 2) (by omega) (by omega), scan2_fuel f g (j + 1) (by omega) (by omega)]
      by_cases e : B j = q
      · have := rn_hit (n := n) hj e
        rw [scan2_fuel f g (j + rn B n q j) (by omega) (by omega)]
      · rw [if_pos e, if_pos e]
    · rw [scan2_out _ _ hj, scan2_out _ _ hj]

/-- its answer -/
def res2 (B : Nat → Nat) (n q L j : Nat) : Nat := scan2 B n q L n j

section
variable {B : Nat → Nat} {n q L j : Nat}
theorem res2_out (h : ¬ j < n) : res2 B n q L j = n := scan2_out _ _ h
theorem res2_unfold (h : j < n) : res2 B n q L j = scan2 B n q L ((n - 1) + 1) j := by unfold res2; exact scan2_fuel n ((n - 1) + 1) j (by omega) (by omega)
theorem res2_esc (h : j < n) (e : esc B n j = true) : res2 B n q L j = res2 B n q L (j + 2) := by
  rw [res2_unfold h]; simp only [scan2, h, not_true_eq_false, if_false, e, if_true]; exact scan2_fuel _ _ _ (by omega) (by omega)
theorem res2_miss (h : j < n) (e : ¬ esc B n j = true) (e2 : ¬ B j = q) : res2 B n q L j = res2 B n q L (j + 1) := by
  rw [res2_unfold h]; simp only [scan2, h, not_true_eq_false, if_false, e, e2, not_false_eq_true, if_true]; exact scan2_fuel _ _ _ (by omega) (by omega)
theorem res2_close (h : j < n) (e : ¬ esc B n j = true) (e2 : B j = q) (e3 : L ≤ rn B n q j) : res2 B n q L j = if L = 1 then j + 1 else j + rn B n q j := by
  rw [res2_unfold h]; simp only [scan2, h, not_true_eq_false, if_false, e, e2, e3, if_true]; rfl
theorem res2_skip (h : j < n) (e : ¬ esc B n j = true) (e2 : B j = q) (e3 : ¬ L ≤ rn B n q j) : res2 B n q L j = res2 B n q L (j + rn B n q j) := by
  have := rn_hit (n := n) h e2
  rw [res2_unfold h]; simp only [scan2, h, not_true_eq_false, if_false, e, e2, e3]; exact scan2_fuel _ _ _ (by omega) (by omega)
end

theorem not_esc {B : Nat → Nat} {n j : Nat} (h : ¬ B j = 92) : ¬ esc B n j = true := fun e => h (esc_lt e).1

/-- a run that is too short is stepped over -/
theorem run_skip {B : Nat → Nat} {n q L l : Nat} (q1 : q ≠ 10) (q2 : q ≠ 92) : ∀ (r j : Nat), rn B n q j = r → r < L → res B n q L j l = res B n q L (j + r) l := by
  intro r
  induction r with
  | zero => intro j _ _; rfl
  | succ r ih =>
    intro j hr hL
    have hj : j < n := by
      rcases Nat.lt_or_ge j n with h | h
      · exact h
      · rw [rn_end (by omega)] at hr; omega
    have e : B j = q := by have := rn_at (B := B) (n := n) (q := q) (j := j) (k := 0) (by omega); simpa using this
    have h1 := rn_hit (n := n) hj e
    rw [res_next hj (by omega) (not_esc (by omega)) (by omega), ih (j + 1) (by omega) (by omega), show j + 1 + r = j + (r + 1) by omega]

/-- LAW B, the end: both scanners come to one place -/
theorem res_is_res2 {B : Nat → Nat} {n q L : Nat} (q1 : q ≠ 10) (q2 : q ≠ 92) (hL : L = 1 ∨ L = 3) : ∀ (m j l : Nat), n - j ≤ m → (res B n q L j l).1 = res2 B n q L j := by
  intro m
  induction m with
  | zero => intro j l h; rw [res_out (by omega), res2_out (by omega)]
  | succ m ih =>
    intro j l h
    by_cases hj : j < n
    · by_cases e : B j = 10
      · rw [res_line hj e, res2_miss hj (not_esc (by omega)) (by omega)]
        exact ih (j + 1) (l + 1) (by omega)
      · by_cases e2 : esc B n j = true
        · rw [res_esc hj e e2, res2_esc hj e2]
          exact ih (j + 2) l (by omega)
        · by_cases e3 : L ≤ rn B n q j
          · have e4 : B j = q := by have := rn_at (B := B) (n := n) (q := q) (j := j) (k := 0) (by omega); simpa using this
            rw [res_close hj e e2 e3, res2_close hj e2 e4 e3]
            show fin B n q L j = _
            unfold fin
            rcases hL with rfl | rfl
            · rfl
            · rfl
          · by_cases e4 : B j = q
            · have := rn_hit (n := n) hj e4
              rw [run_skip q1 q2 (rn B n q j) j rfl (by omega), res2_skip hj e2 e4 e3]
              exact ih _ l (by omega)
            · rw [res_next hj e e2 e3, res2_miss hj e2 e4]
              exact ih (j + 1) l (by omega)
    · rw [res_out hj, res2_out hj]

/-- the line breaks among the m places from a on -/
def cnt (B : Nat → Nat) (a : Nat) : Nat → Nat
  | 0 => 0
  | m + 1 => cnt B a m + if B (a + m) = 10 then 1 else 0

theorem cnt_add (B : Nat → Nat) (a m : Nat) : ∀ p, cnt B a (m + p) = cnt B a m + cnt B (a + m) p
  | 0 => rfl
  | p + 1 => by
    rw [← Nat.add_assoc]
    simp only [cnt]
    rw [cnt_add B a m p, show a + (m + p) = a + m + p by omega]
    omega
theorem cnt_zero (B : Nat → Nat) (a : Nat) : ∀ m, (∀ k, k < m → B (a + k) ≠ 10) → cnt B a m = 0
  | 0, _ => rfl
  | m + 1, h => by simp only [cnt]; rw [cnt_zero B a m (fun k hk => h k (by omega)), if_neg (h m (by omega))]
theorem cnt_congr (B C : Nat → Nat) (a b : Nat) : ∀ m, (∀ k, k < m → B (a + k) = C (b + k)) → cnt B a m = cnt C b m
  | 0, _ => rfl
  | m + 1, h => by simp only [cnt]; rw [cnt_congr B C a b m (fun k hk => h k (by omega)), h m (by omega)]
theorem cnt_le (B : Nat → Nat) (a : Nat) : ∀ m, cnt B a m ≤ m
  | 0 => Nat.le_refl _
  | m + 1 => by simp only [cnt]; have := cnt_le B a m; split <;> omega

/-- LAW B, the lines -/
theorem res_lines {B : Nat → Nat} {n q L : Nat} (q1 : q ≠ 10) (hL : L = 1 ∨ L = 3) : ∀ (m j l : Nat), n - j ≤ m → j ≤ n → (res B n q L j l).2 = l + cnt B j ((res B n q L j l).1 - j) := by
  intro m
  induction m with
  | zero =>
    intro j l h1 h2
    rw [res_out (by omega)]
    simp only
    rw [show n - j = 0 by omega]
    rfl
  | succ m ih =>
    intro j l h1 h2
    by_cases hj : j < n
    · by_cases e : B j = 10
      · rw [res_line hj e, ih (j + 1) (l + 1) (by omega) (by omega)]
        have b := res_bd (B := B) (n := n) (q := q) (L := L) (by omega) n (j + 1) (l + 1) (by omega) (by omega)
        rw [show (res B n q L (j + 1) (l + 1)).1 - j = 1 + ((res B n q L (j + 1) (l + 1)).1 - (j + 1)) by omega, cnt_add]
        have : cnt B j 1 = 1 := by simp [cnt, e]
        omega
      · by_cases e2 : esc B n j = true
        · obtain ⟨p1, p2, p3⟩ := esc_lt e2
          rw [res_esc hj e e2, ih (j + 2) l (by omega) (by omega)]
          have b := res_bd (B := B) (n := n) (q := q) (L := L) (by omega) n (j + 2) l (by omega) (by omega)
          rw [show (res B n q L (j + 2) l).1 - j = 2 + ((res B n q L (j + 2) l).1 - (j + 2)) by omega, cnt_add]
          have : cnt B j 2 = 0 := cnt_zero B j 2 (fun k hk => by
            match k, hk with
            | 0, _ => simpa using e
            | 1, _ => omega)
          omega
        · by_cases e3 : L ≤ rn B n q j
          · rw [res_close hj e e2 e3]
            show l = l + cnt B j (fin B n q L j - j)
            rw [cnt_zero B j _ (fun k hk => by
              have : k < rn B n q j := by
                rcases hL with rfl | rfl
                · have f1 : fin B n q 1 j = j + 1 := rfl
                  omega
                · have f1 : fin B n q 3 j = j + rn B n q j := rfl
                  omega
              rw [rn_at this]; exact q1)]
            rfl
          · rw [res_next hj e e2 e3, ih (j + 1) l (by omega) (by omega)]
            have b := res_bd (B := B) (n := n) (q := q) (L := L) (by omega) n (j + 1) l (by omega) (by omega)
            rw [show (res B n q L (j + 1) l).1 - j = 1 + ((res B n q L (j + 1) l).1 - (j + 1)) by omega, cnt_add]
            have : cnt B j 1 = 0 := by simp [cnt, e]
            omega
    · rw [res_out hj]
      simp only
      rw [show n - j = 0 by omega]
      rfl

/-- zzB1EndByRuns -/
def runsEnd (B : Nat → Nat) (n i : Nat) : Nat := res2 B n (B i) (wide B n i) (i + wide B n i)

theorem strEnd_is_runs {B : Nat → Nat} {n i : Nat} (q1 : B i ≠ 10) (q2 : B i ≠ 92) : (strEnd B n i).1 = runsEnd B n i :=
  res_is_res2 q1 q2 (wide_13 B n i) n _ 0 (by omega)

theorem strEnd_lines {B : Nat → Nat} {n i : Nat} (h : i < n) (q1 : B i ≠ 10) : (strEnd B n i).2 = cnt B i ((strEnd B n i).1 - i) := by
  have hl := wide_le (B := B) h
  have b := res_bd (B := B) (n := n) (q := B i) (L := wide B n i) (by have := wide_13 B n i; omega) n (i + wide B n i) 0 (by omega) hl
  have e := res_lines (B := B) (n := n) q1 (wide_13 B n i) n (i + wide B n i) 0 (by omega) hl
  unfold strEnd
  rw [e, Nat.zero_add, show (res B n (B i) (wide B n i) (i + wide B n i) 0).1 - i = wide B n i + ((res B n (B i) (wide B n i) (i + wide B n i) 0).1 - (i + wide B n i)) by omega, cnt_add]
  rw [cnt_zero B i (wide B n i) (fun k hk => by
    have : k < rn B n (B i) i := by
      unfold wide at hk
      split at hk
      · omega
      · have := rn_hit (B := B) (n := n) (q := B i) h rfl
        omega
    rw [rn_at this]; exact q1), Nat.zero_add]

end Go.Proofs.Qxb6601240a.Plain
