namespace Go.Proofs.Qxb6601240a.Plain

/-- how many of the places j, j + 1, .. below j + fuel hold q, one behind the other -/
def runF (B : Nat → Nat) (q : Nat) : Nat → Nat → Nat
  | 0, _ => 0
  | f + 1, j => if B j = q then runF B q f (j + 1) + 1 else 0

/-- the run of q at j, below n -/
def rn (B : Nat → Nat) (n q j : Nat) : Nat := runF B q (n - j) j

theorem rn_end {B : Nat → Nat} {n q j : Nat} (h : ¬ j < n) : rn B n q j = 0 := by
  unfold rn; rw [show n - j = 0 by omega]; rfl
theorem rn_hit {B : Nat → Nat} {n q j : Nat} (h : j < n) (e : B j = q) : rn B n q j = rn B n q (j + 1) + 1 := by
  unfold rn; rw [show n - j = (n - (j + 1)) + 1 by omega]; simp only [runF, e, if_true]
theorem rn_miss {B : Nat → Nat} {n q j : Nat} (e : ¬ B j = q) : rn B n q j = 0 := by
  unfold rn
  cases n - j with
  | zero => rfl
  | succ m => simp only [runF, e, if_false]

theorem runF_le (B : Nat → Nat) (q : Nat) : ∀ f j, runF B q f j ≤ f
  | 0, _ => Nat.le_refl _
  | f + 1, j => by
    simp only [runF]
    split
    · have := runF_le B q f (j + 1); omega
    · omega
theorem rn_le (B : Nat → Nat) (n q j : Nat) (h : j ≤ n) : j + rn B n q j ≤ n := by
  have := runF_le B q (n - j) j; unfold rn; omega
theorem runF_at (B : Nat → Nat) (q : Nat) : ∀ f j k, k < runF B q f j → B (j + k) = q
  | 0, _, _, h => by simp [runF] at h
  | f + 1, j, k, h => by
    simp only [runF] at h
    split at h
    · rename_i e
      cases k with
      | zero => exact e
      | succ m =>
        have := runF_at B q f (j + 1) m (by omega)
        rwa [show j + 1 + m = j + (m + 1) by omega] at this
    · omega
theorem rn_at {B : Nat → Nat} {n q j k : Nat} (h : k < rn B n q j) : B (j + k) = q := runF_at B q _ j k h
/-- behind the run no q follows -/
theorem runF_stop (B : Nat → Nat) (q : Nat) : ∀ f j, runF B q f j < f → B (j + runF B q f j) ≠ q
  | 0, _, h => by simp [runF] at h
  | f + 1, j, h => by
    simp only [runF] at h ⊢
    split at h
    · rename_i e
      rw [if_pos e]
      have := runF_stop B q f (j + 1) (by omega)
      rwa [show j + 1 + runF B q f (j + 1) = j + (runF B q f (j + 1) + 1) by omega] at this
    · rename_i e
      rw [if_neg e]
      simpa using e

/-- an escape that is stepped over -/
def esc (B : Nat → Nat) (n j : Nat) : Bool := decide (B j = 92) && decide (j + 1 < n) && (decide (B (j + 1) = 34) || decide (B (j + 1) = 92))

/-- where a string that closes at j ends -/
def fin (B : Nat → Nat) (n q L j : Nat) : Nat := if L = 3 then j + rn B n q j else j + L

/-- the scan: from place j, l line breaks met -/
def scan (B : Nat → Nat) (n q L : Nat) : Nat → Nat → Nat → Nat × Nat
  | 0, _, l => (n, l)
  | f + 1, j, l =>
    if ¬ j < n then (n, l)
    else if B j = 10 then scan B n q L f (j + 1) (l + 1)
    else if esc B n j = true then scan B n q L f (j + 2) l
    else if L ≤ rn B n q j then (fin B n q L j, l)
    else scan B n q L f (j + 1) l

theorem scan_out {B : Nat → Nat} {n q L : Nat} : ∀ (f j l : Nat), ¬ j < n → scan B n q L f j l = (n, l)
  | 0, _, _, _ => rfl
  | f + 1, j, l, h => by simp only [scan, h, not_false_eq_true, if_true]

theorem scan_fuel {B : Nat → Nat} {n q L : Nat} : ∀ (f g j l : Nat), n - j ≤ f → n - j ≤ g → scan B n q L f j l = scan B n q L g j l
  | 0, g, j, l, hf, _ => by rw [scan_out g j l (by omega)]; rfl
  | f + 1, 0, j, l, _, hg => by rw [scan_out (f + 1) j l (by omega)]; rfl
  | f + 1, g + 1, j, l, hf, hg => by
    by_cases hj : j < n
    · simp only [scan, hj, not_true_eq_false, if_false]
      rw [scan_fuel f g (j + 1) (l + 1) (by omega) (by omega), scan_fuel f g (j + 2) l (by omega) (by omega), scan_fuel f g (j + 1) l (by omega) (by omega)]
    · rw [scan_out _ _ _ hj, scan_out _ _ _ hj]

/-- the scan's answer -/
def res (B : Nat → Nat) (n q L j l : Nat) : Nat × Nat := scan B n q L n j l

section
variable {B : Nat → Nat} {n q L j l : Nat}
theorem res_out (h : ¬ j < n) : res B n q L j l = (n, l) := scan_out _ _ _ h
theorem res_step (h : j < n) : res B n q L j l = if B j = 10 then res B n q L (j + 1) (l + 1) else if esc B n j = true then res B n q L (j + 2) l else if L ≤ rn B n q j then (fin B n q L j, l) else res B n q L (j + 1) l := by
  unfold res
  rw [scan_fuel n ((n - 1) + 1) j l (by omega) (by omega)]
  simp only [scan, h, not_true_eq_false, if_false]
  rw [scan_fuel (n - 1) n (j + 1) (l + 1) (by omega) (by omega), scan_fuel (n - 1) n (j + 2) l (by omega) (by omega), scan_fuel (n - 1) n (j + 1) l (by omega) (by omega)]
theorem res_line (h : j < n) (e : B j = 10) : res B n q L j l = res B n q L (j + 1) (l + 1) := by rw [res_step h, if_pos e]
theorem res_esc (h : j < n) (e : ¬ B j = 10) (e2 : esc B n j = true) : res B n q L j l = res B n q L (j + 2) l := by rw [res_step h, if_neg e, if_pos e2]
theorem res_close (h : j < n) (e : ¬ B j = 10) (e2 : ¬ esc B n j = true) (e3 : L ≤ rn B n q j) : res B n q L j l = (fin B n q L j, l) := by rw [res_step h, if_neg e, if_neg e2, if_pos e3]
theorem res_next (h : j < n) (e : ¬ B j = 10) (e2 : ¬ esc B n j = true) (e3 : ¬ L ≤ rn B n q j) : res B n q L j l = res B n q L (j + 1) l := by rw [res_step h, if_neg e, if_neg e2, if_neg e3]
end

theorem esc_lt {B : Nat → Nat} {n j : Nat} (h : esc B n j = true) : B j = 92 ∧ j + 1 < n ∧ (B (j + 1) = 34 ∨ B (j + 1) = 92) := by
  unfold esc at h
  simp only [Bool.and_eq_true, Bool.or_eq_true, decide_eq_true_eq] at h
  exact ⟨h.1.1, h.1.2, h.2⟩
theorem esc_of {B : Nat → Nat} {n j : Nat} (h1 : B j = 92) (h2 : j + 1 < n) (h3 : B (j + 1) = 34 ∨ B (j + 1) = 92) : esc B n j = true := by
  unfold esc
  simp only [Bool.and_eq_true, Bool.or_eq_true, decide_eq_true_eq]
  exact ⟨⟨h1, h2⟩, h3⟩

theorem fin_bd (B : Nat → Nat) (n q L j : Nat) (hL : 1 ≤ L) (hj : j ≤ n) (h : L ≤ rn B n q j) : j + 1 ≤ fin B n q L j ∧ j + L ≤ fin B n q L j ∧ fin B n q L j ≤ n := by
  have := rn_le B n q j hj
  unfold fin
  split <;> omega

/-- where the scan ends -/
theorem res_bd {B : Nat → Nat} {n q L : Nat} (hL : 1 ≤ L) : ∀ (m j l : Nat), n - j ≤ m → j ≤ n → j ≤ (res B n q L j l).1 ∧ (res B n q L j l).1 ≤ n := by
  intro m
  induction m with
  | zero => intro j l h1 h2; rw [res_out (by omega)]; simp; omega
  | succ m ih =>
    intro j l h1 h2
    by_cases hj : j < n
    · by_cases e : B j = 10
      · rw [res_line hj e]; have := ih (j + 1) (l + 1) (by omega) (by omega); omega
      · by_cases e2 : esc B n j = true
        · have hl := (esc_lt e2).2.1
          rw [res_esc hj e e2]; have := ih (j + 2) l (by omega) (by omega); omega
        · by_cases e3 : L ≤ rn B n q j
          · rw [res_close hj e e2 e3]; have := fin_bd B n q L j hL (by omega) e3; simp only; omega
          · rw [res_next hj e e2 e3]; have := ih (j + 1) l (by omega) (by omega); omega
    · rw [res_out hj]; simp; omega

/-- the run, seen in a text that is cut at k -/
theorem rn_cut (B C : Nat → Nat) (q : Nat) : ∀ (m n k j : Nat), n - j ≤ m → k ≤ n → (∀ x, x < k → C x = B x) → j + rn B n q j ≤ k → rn C k q j = rn B n q j := by
  intro m
  induction m with
  | zero =>
    intro n k j h1 h2 hC h3
    rw [rn_end (by omega), rn_end (by omega)]
  | succ m ih =>
    intro n k j h1 h2 hC h3
    by_cases hj : j < n
    · by_cases e : B j = q
      · rw [rn_hit hj e] at h3 ⊢
        have hk : j < k := by omega
        rw [rn_hit hk (by rw [hC j hk]; exact e), ih n k (j + 1) (by omega) h2 hC (by omega)]
      · rw [rn_miss e]
        by_cases hk : j < k
        · exact rn_miss (by rw [hC j hk]; exact e)
        · exact rn_end hk
    · rw [rn_end hj, rn_end (by omega)]

/-- a run in the cut text is no longer -/
theorem rn_cut_le (B C : Nat → Nat) (q : Nat) : ∀ (m n k j : Nat), k - j ≤ m → k ≤ n → (∀ x, x < k → C x = B x) → rn C k q j ≤ rn B n q j := by
  intro m
  induction m with
  | zero => intro n k j h1 h2 hC; rw [rn_end (by omega)]; omega
  | succ m ih =>
    intro n k j h1 h2 hC
    by_cases hk : j < k
    · by_cases e : C j = q
      · rw [rn_hit hk e, rn_hit (by omega : j < n) (by rw [← hC j hk]; exact e)]
        have := ih n k (j + 1) (by omega) h2 hC
        omega
      · rw [rn_miss e]; omega
    · rw [rn_end hk]; omega

/-- LAW A: a text that is cut at or behind the end gives the same answer -/
theorem res_cut (B C : Nat → Nat) {n k q L : Nat} (hL : L = 1 ∨ L = 3) (hkn : k ≤ n) (hC : ∀ x, x < k → C x = B x) : ∀ (m j l : Nat), n - j ≤ m → j ≤ n → (res B n q L j l).1 ≤ k → res C k q L j l = res B n q L j l := by
  intro m
  induction m with
  | zero =>
    intro j l h1 h2 h3
    rw [res_out (by omega)] at h3 ⊢
    simp only at h3
    rw [res_out (by omega), show k = n by omega]
  | succ m ih =>
    intro j l h1 h2 h3
    by_cases hj : j < n
    · by_cases e : B j = 10
      · rw [res_line hj e] at h3 ⊢
        have b := res_bd (B := B) (n := n) (q := q) (L := L) (by omega) n (j + 1) (l + 1) (by omega) (by omega)
        have hk : j < k := by omega
        rw [res_line hk (by rw [hC j hk]; exact e)]
        exact ih (j + 1) (l + 1) (by omega) (by omega) h3
      · by_cases e2 : esc B n j = true
        · obtain ⟨p1, p2, p3⟩ := esc_lt e2
          rw [res_esc hj e e2] at h3 ⊢
          have b := res_bd (B := B) (n := n) (q := q) (L := L) (by omega) n (j + 2) l (by omega) (by omega)
          have hk : j < k := by omega
          have hk1 : j + 1 < k := by omega
          rw [res_esc hk (by rw [hC j hk]; exact e) (esc_of (by rw [hC j hk]; exact p1) hk1 (by rw [hC _ hk1]; exact p3))]
          exact ih (j + 2) l (by omega) (by omega) h3
        · have ne : ∀ (_ : j < k), ¬ esc C k j = true := fun hk h => by
            obtain ⟨p1, p2, p3⟩ := esc_lt h
            exact e2 (esc_of (by rw [← hC j hk]; exact p1) (by omega) (by rw [← hC _ p2]; exact p3))
          by_cases e3 : L ≤ rn B n q j
          · rw [res_close hj e e2 e3] at h3 ⊢
            have b := fin_bd B n q L j (by omega) (by omega) e3
            simp only at h3
            have hk : j < k := by omega
            rcases hL with rfl | rfl
            · have f1 : fin B n q 1 j = j + 1 := rfl
              have e4 : 1 ≤ rn C k q j := by
                have h0 : B j = q := by have := rn_at (B := B) (n := n) (q := q) (j := j) (k := 0) (by omega); simpa using this
                rw [rn_hit hk (by rw [hC j hk]; exact h0)]; omega
              rw [res_close hk (by rw [hC j hk]; exact e) (ne hk) e4]
              rfl
            · have f1 : fin B n q 3 j = j + rn B n q j := rfl
              have hr : rn C k q j = rn B n q j := rn_cut B C q n n k j (by omega) hkn hC (by omega)
              rw [res_close hk (by rw [hC j hk]; exact e) (ne hk) (by rw [hr]; exact e3)]
              show (j + rn C k q j, l) = (j + rn B n q j, l)
              rw [hr]
          · rw [res_next hj e e2 e3] at h3 ⊢
            have b := res_bd (B := B) (n := n) (q := q) (L := L) (by omega) n (j + 1) l (by omega) (by omega)
            have hk : j < k := by omega
            have := rn_cut_le B C q k n k j (by omega) hkn hC
            rw [res_next hk (by rw [hC j hk]; exact e) (ne hk) (by omega)]
            exact ih (j + 1) l (by omega) (by omega) h3
    · rw [res_out hj] at h3 ⊢
      simp only at h3
      rw [res_out (by omega), show k = n by omega]

/-- how wide the opening at i is -/
def wide (B : Nat → Nat) (n i : Nat) : Nat := if 3 ≤ rn B n (B i) i then 3 else 1

theorem wide_13 (B : Nat → Nat) (n i : Nat) : wide B n i = 1 ∨ wide B n i = 3 := by unfold wide; split <;> omega
theorem wide_le {B : Nat → Nat} {n i : Nat} (h : i < n) : i + wide B n i ≤ n := by
  have := rn_le B n (B i) i (by omega)
  unfold wide; split <;> omega

/-- stringEnd -/
def strEnd (B : Nat → Nat) (n i : Nat) : Nat × Nat := res B n (B i) (wide B n i) (i + wide B n i) 0

theorem strEnd_bd {B : Nat → Nat} {n i : Nat} (h : i < n) : i < (strEnd B n i).1 ∧ (strEnd B n i).1 ≤ n := by
  have hw := wide_13 B n i
  have hl := wide_le (B := B) h
  have b := res_bd (B := B) (n := n) (q := B i) (L := wide B n i) (by omega) n (i + wide B n i) 0 (by omega) hl
  unfold strEnd
  omega

theorem strEnd_cut {B C : Nat → Nat} {n k i : Nat} (hi : i < n) (hkn : k ≤ n) (hC : ∀ x, x < k → C x = B x) (hk : (strEnd B n i).1 ≤ k) : strEnd C k i = strEnd B n i := by
  have hb := strEnd_bd (B := B) hi
  have hq : C i = B i := hC i (by omega)
  have hw : wide C k i = wide B n i := by
    have h1 := rn_cut_le B C (B i) k n k i (by omega) hkn hC
    unfold wide
    rw [hq]
    by_cases h3 : 3 ≤ rn B n (B i) i
    · have hl := wide_le (B := B) hi
      have b := res_bd (B := B) (n := n) (q := B i) (L := wide B n i) (by have := wide_13 B n i; omega) n (i + wide B n i) 0 (by omega) hl
      have e3 : wide B n i = 3 := by unfold wide; rw [if_pos h3]
      have hk3 : i + 3 ≤ k := by
        have : i + wide B n i ≤ (strEnd B n i).1 := b.1
        omega
      have r0 : B i = B i := rfl
      have r1 : B (i + 1) = B i := rn_at (n := n) (by omega)
      have r2 : B (i + 2) = B i := rn_at (n := n) (by omega)
      have : 3 ≤ rn C k (B i) i := by
        rw [rn_hit (by omega) hq, rn_hit (by omega) (by rw [hC _ (by omega)]; exact r1), rn_hit (by omega) (by rw [hC _ (by omega)]; exact r2)]
        omega
      rw [if_pos this, if_pos h3]
    · rw [if_neg (by omega), if_neg h3]
  unfold strEnd at hk ⊢
  rw [hw, hq]
  exact res_cut B C (wide_13 B n i) hkn hC n _ 0 (by omega) (wide_le hi) hk

end Go.Proofs.Qxb6601240a.Plain
