namespace Go.Proofs.Qxb6001654a.Plain

/-- the comparison of two lists of numbers, place by place -/
def cmp : List Int → List Int → Int
  | [], [] => 0
  | [], _ :: _ => -1
  | _ :: _, [] => 1
  | x :: xs, y :: ys => if x < y then -1 else if y < x then 1 else cmp xs ys

theorem cmp_refl : ∀ l : List Int, cmp l l = 0
  | [] => rfl
  | x :: xs => by simp [cmp, cmp_refl xs]

/-- what the first k places, being alike, leave -/
theorem cmp_drop : ∀ (k : Nat) (a b : List Int), k ≤ a.length → k ≤ b.length → a.take k = b.take k → cmp a b = cmp (a.drop k) (b.drop k)
  | 0, _, _, _, _, _ => rfl
  | k + 1, [], _, h, _, _ => by simp at h
  | k + 1, _ :: _, [], _, h, _ => by simp at h
  | k + 1, x :: xs, y :: ys, h1, h2, e => by
    simp only [List.take_succ_cons, List.cons.injEq] at e
    obtain ⟨rfl, e⟩ := e
    simp only [cmp, Int.lt_irrefl, if_false, List.drop_succ_cons]
    exact cmp_drop k xs ys (by simpa using h1) (by simpa using h2) e

theorem cmp_at_lt {k : Nat} {a b : List Int} (h1 : k < a.length) (h2 : k < b.length) (e : a.take k = b.take k) (h : a[k]'h1 < b[k]'h2) : cmp a b = -1 := by
  rw [cmp_drop k a b (by omega) (by omega) e, List.drop_eq_getElem_cons h1, List.drop_eq_getElem_cons h2]
  simp [cmp, h]

theorem cmp_at_gt {k : Nat} {a b : List Int} (h1 : k < a.length) (h2 : k < b.length) (e : a.take k = b.take k) (h : b[k]'h2 < a[k]'h1) : cmp a b = 1 := by
  rw [cmp_drop k a b (by omega) (by omega) e, List.drop_eq_getElem_cons h1, List.drop_eq_getElem_cons h2]
  have : ¬ a[k]'h1 < b[k]'h2 := by omega
  simp [cmp, h, this]

theorem take_next {k : Nat} {a b : List Int} (h1 : k < a.length) (h2 : k < b.length) (e : a.take k = b.take k) (h : a[k]'h1 = b[k]'h2) : a.take (k + 1) = b.take (k + 1) := by
  rw [List.take_succ_eq_append_getElem h1, List.take_succ_eq_append_getElem h2, e, h]

theorem cmp_end {k : Nat} {a b : List Int} (h1 : k ≤ a.length) (h2 : k ≤ b.length) (e : a.take k = b.take k) (h : k = a.length ∨ k = b.length) :
    cmp a b = if a.length < b.length then -1 else if b.length < a.length then 1 else 0 := by
  rw [cmp_drop k a b h1 h2 e]
  rcases h with h | h
  · have ha : a.drop k = [] := by rw [h]; simp
    rw [ha]
    by_cases hb : k < b.length
    · rw [List.drop_eq_getElem_cons hb, if_pos (by omega)]
      rfl
    · have hb' : b.drop k = [] := List.drop_of_length_le (by omega)
      rw [hb', if_neg (by omega), if_neg (by omega)]
      rfl
  · have hb : b.drop k = [] := by rw [h]; simp
    rw [hb]
    by_cases ha : k < a.length
    · rw [List.drop_eq_getElem_cons ha, if_neg (by omega), if_pos (by omega)]
      rfl
    · have ha' : a.drop k = [] := List.drop_of_length_le (by omega)
      rw [ha', if_neg (by omega), if_neg (by omega)]
      rfl

/-- the n lowest bytes of s, the highest first -/
def be : Nat → Nat → List Int
  | 0, _ => []
  | n + 1, s => ((s / 256 ^ n % 256 : Nat) : Int) :: be n s

theorem length_be : ∀ n s, (be n s).length = n
  | 0, _ => rfl
  | n + 1, s => by simp [be, length_be n s]

/-- the sign of a - b -/
def sgn (a b : Nat) : Int := if a < b then -1 else if b < a then 1 else 0

theorem cmp_be : ∀ (n a b : Nat), cmp (be n a) (be n b) = sgn (a % 256 ^ n) (b % 256 ^ n)
  | 0, a, b => by simp [be, cmp, sgn, Nat.mod_one]
  | n + 1, a, b => by
    have ih := cmp_be n a b
    have ea := Nat.mod_pow_succ (x := a) (b := 256) (k := n)
    have eb := Nat.mod_pow_succ (x := b) (b := 256) (k := n)
    have hp : 0 < 256 ^ n := Nat.pow_pos (by omega)
    have la := Nat.mod_lt a hp
    have lb := Nat.mod_lt b hp
    rw [ea, eb]
    simp only [be, cmp, ih]
    generalize a / 256 ^ n % 256 = x
    generalize b / 256 ^ n % 256 = y
    generalize a % 256 ^ n = u at *
    generalize b % 256 ^ n = v at *
    generalize 256 ^ n = m at *
    rcases Nat.lt_trichotomy x y with h | h | h
    · have h1 : m * (x + 1) ≤ m * y := Nat.mul_le_mul_left m h
      rw [Nat.mul_add, Nat.mul_one] at h1
      rw [if_pos (by omega)]
      unfold sgn
      rw [if_pos (by omega)]
    · subst h
      rw [if_neg (by omega), if_neg (by omega)]
      unfold sgn
      simp only [Nat.add_lt_add_iff_right]
    · have h1 : m * (y + 1) ≤ m * x := Nat.mul_le_mul_left m h
      rw [Nat.mul_add, Nat.mul_one] at h1
      rw [if_neg (by omega), if_pos (by omega)]
      unfold sgn
      rw [if_neg (by omega), if_pos (by omega)]

/-- how many bytes s takes -/
def Takes (n s : Nat) : Prop := 1 ≤ n ∧ n ≤ 8 ∧ 256 ^ (n - 1) ≤ s ∧ s < 256 ^ n

/-- L is the header of (o, s) -/
def IsHdr (o : Int) (s : Nat) (L : List Int) : Prop :=
  (s < 56 ∧ L = [o + s]) ∨ (56 ≤ s ∧ ∃ n, Takes n s ∧ L = (o + 55 + n) :: be n s)

theorem takes_lt {n m a b : Nat} (ha : Takes n a) (hb : Takes m b) (h : n < m) : a < b := by
  have : 256 ^ n ≤ 256 ^ (m - 1) := Nat.pow_le_pow_right (by omega) (by omega)
  have h1 := ha.2.2.2
  have h2 := hb.2.2.1
  omega

theorem same_off {o : Int} {a b : Nat} {L M : List Int} (hL : IsHdr o a L) (hM : IsHdr o b M) : cmp L M = sgn a b := by
  rcases hL with ⟨ha, rfl⟩ | ⟨ha, n, tn, rfl⟩
  · rcases hM with ⟨hb, rfl⟩ | ⟨hb, m, tm, rfl⟩
    · simp only [cmp, sgn]
      by_cases h1 : a < b
      · rw [if_pos h1, if_pos (by omega)]
      · rw [if_neg h1, if_neg (by omega)]
        by_cases h2 : b < a
        · rw [if_pos h2, if_pos (by omega)]
        · rw [if_neg h2, if_neg (by omega)]
    · have := tm.1
      simp only [cmp, sgn]
      rw [if_pos (by omega), if_pos (by omega)]
  · rcases hM with ⟨hb, rfl⟩ | ⟨hb, m, tm, rfl⟩
    · have := tn.1
      simp only [cmp, sgn]
      rw [if_neg (by omega), if_pos (by omega), if_neg (by omega), if_pos (by omega)]
    · simp only [cmp]
      rcases Nat.lt_trichotomy n m with h | h | h
      · have := takes_lt tn tm h
        rw [if_pos (by omega)]
        unfold sgn
        rw [if_pos (by omega)]
      · subst h
        rw [if_neg (by omega), if_neg (by omega), cmp_be, Nat.mod_eq_of_lt tn.2.2.2, Nat.mod_eq_of_lt tm.2.2.2]
      · have := takes_lt tm tn h
        rw [if_neg (by omega), if_pos (by omega)]
        unfold sgn
        rw [if_neg (by omega), if_pos (by omega)]

theorem head_of {o : Int} {s : Nat} {L : List Int} (h : IsHdr o s L) : ∃ x r, L = x :: r ∧ o ≤ x ∧ x ≤ o + 63 := by
  rcases h with ⟨hs, rfl⟩ | ⟨_, n, tn, rfl⟩
  · exact ⟨_, _, rfl, by omega, by omega⟩
  · have := tn.1
    have := tn.2.1
    exact ⟨_, _, rfl, by omega, by omega⟩

theorem other_off {a b : Nat} {L M : List Int} (hL : IsHdr 128 a L) (hM : IsHdr 192 b M) : cmp L M = -1 ∧ cmp M L = 1 := by
  obtain ⟨x, r, rfl, h1, h2⟩ := head_of hL
  obtain ⟨y, t, rfl, h3, h4⟩ := head_of hM
  simp only [cmp]
  constructor
  · rw [if_pos (by omega)]
  · rw [if_neg (by omega), if_pos (by omega)]

end Go.Proofs.Qxb6001654a.Plain
