import Derived.Test.Qxb6001654aLen
namespace Go.Proofs.Qxb6001654a
open Go.RowKit Plain

theorem info5 : (Try.prog.info? 5).map (fun i => (i.zero, i.size, i.bytes)) = some (some (.int .u8 0), 1, 1) := by kernel_rfl

/-- numbers as bytes -/
def B (L : List Int) : List Value := L.map (Value.int .u8)

theorem B_snoc (L : List Int) (x : Int) : B L ++ [.int .u8 x] = B (L ++ [x]) := by simp [B]

/-- one byte appended to a slice of the call's own -/
theorem app1 {ops : Array Oper} {rest : List Oper} {op : Oper} {a : Act} {w : World} {Q : Exit → Act → World → Prop} (s x : Operand) (hgd : op.guard = none)
    (ho : op.op = .call { callee := .builtin .append, args := #[s, x], argTypes := #[22, 22] }) (w1 : World) (y : Int) (hW : w = w1.alloc (.cells #[.int .u8 y] 5))
    (base : Nat) (v : Value) (L : List Int) (hs : a.eval s = v) (hx : a.eval x = .slice (some ⟨w1.heap.size, 0, none⟩) 1 1)
    (hown : w1.ownsRow base 5 1 v L.length (B L)) (hn : L.length ≤ 100) (hb : base ≤ w1.heap.size)
    (h : ∀ v' w', w'.ownsRow base 5 1 v' (L ++ [y]).length (B (L ++ [y])) → Below base w1 w' → wpList Try.prog ops Q rest (a.put op.dst v') w') : wpList Try.prog ops Q (op :: rest) a w := by
  subst hW
  obtain ⟨i0, hi, hz0, hz1, hz2⟩ := info_parts info5
  refine wpList_append_own _ hgd s x 22 ho base 5 i0 (.int .u8 0) 1 1 Try.underlying22 hi hz0 hz1 hz2 rfl (by decide) v L.length (B L) hs (hown.alloc _) ⟨w1.heap.size, 0, none⟩ 1 1 [.int .u8 y] hx rfl ?_ ?_ ?_ ?_ ?_ ?_
  · intro j u hj
    match j, hj with
    | 0, hj => simp at hj; subst hj; simp [Addr.add]
  · intro u hu; simp at hu; subst hu; rfl
  · unfold maxLen; omega
  · omega
  · simp; omega
  · intro v' w' hown' hgrow _
    refine h v' w' ?_ ?_
    · rw [← B_snoc, List.length_append]; exact hown'
    · exact ((Below.refl base w1).alloc hb _).grown hgrow (by simp; omega) (fun k hk => (hown.lt k hk).1)

/-- what appendHeader leaves -/
def HdrPost (o : Int) (s : Nat) (w : World) (e : Ending) (w' : World) : Prop :=
  ∃ v L, e = .returned v ∧ IsHdr o s L ∧ w'.ownsRow w.heap.size 5 1 v L.length (B L) ∧ Below w.heap.size w w'

theorem be_step (L : List Int) (s k : Nat) : (L ++ [(s : Int) / 2 ^ (8 * k) % 256]) ++ be k s = L ++ be (k + 1) s := by
  rw [List.append_assoc]
  congr 1
  show ((s : Int) / 2 ^ (8 * k) % 256) :: be k s = ((s / 256 ^ k % 256 : Nat) : Int) :: be k s
  congr 1
  have e : (256 : Nat) ^ k = 2 ^ (8 * k) := by rw [Nat.pow_mul]
  rw [e]
  simp

set_option maxHeartbeats 400000 in
theorem app_short (o : Int) (s : Nat) (w : World) (h1 : 128 ≤ o) (h2 : o ≤ 192) (hs : s < 56) :
    Calls Try.prog 13 #[.slice none 0 0, .int .u8 o, .int .i64 s] w fun e w' => HdrPost o s w e w' := by
  go_enter Try.func13, Try.ntmps13
  go_wp2_with (at_builtin; refine app1 (.tmp 11) (.tmp 16) ?_ ?_ w (o + s) ?_ w.heap.size (.slice none 0 0) [] ?_ ?_ ?_ ?_ ?_ ?_; rfl; rfl; rfl; rfl; rfl; exact World.ownsRow_nil _ _ _ _; exact Nat.zero_le _; exact Nat.le_refl _; intro v1 w1 hown1 hbel1)
  go_ret
  exact ⟨_, _, rfl, .inl ⟨hs, rfl⟩, hown1, hbel1⟩

set_option maxHeartbeats 1000000 in
theorem app_long (o : Int) (s : Nat) (w : World) (h1 : 128 ≤ o) (h2 : o ≤ 192) (hs : ¬ s < 56) (hs2 : s < 9223372036854775808) :
    Calls Try.prog 13 #[.slice none 0 0, .int .u8 o, .int .i64 s] w fun e w' => HdrPost o s w e w' := by
  go_enter Try.func13, Try.ntmps13
  go_wp2_with fail
  refine (len_any s _ (by omega) hs2).mono ?_
  rintro e w' ⟨n, rfl, tn, rfl⟩
  have hn1 := tn.1
  have hn2 := tn.2.1
  go_wp2_with (at_builtin; refine app1 (.tmp 20) (.tmp 27) ?_ ?_ w (o + 56 - 1 + n) ?_ w.heap.size (.slice none 0 0) [] ?_ ?_ ?_ ?_ ?_ ?_; rfl; rfl; rfl; rfl; rfl; exact World.ownsRow_nil _ _ _ _; exact Nat.zero_le _; exact Nat.le_refl _; intro v1 w1 hown1 hbel1)
  go_loopw [0, 8] (fun v i wr => ∃ (m : Nat) (z : Int) (L : List Int), i = .int .i64 z ∧ z + 1 ≤ m ∧ m ≤ z + 1 ∧ m ≤ n ∧ L.length ≤ 9 - m ∧ L ++ be m s = (o + 56 - 1 + n) :: be n s ∧ wr.ownsRow w.heap.size 5 1 v L.length (B L) ∧ Below w.heap.size w wr)
    (fun _ i _ => (intOf i + 1).toNat)
  case atStart => exact ⟨n, _, [o + 56 - 1 + n], rfl, by omega, by omega, by omega, by simp; omega, rfl, hown1, hbel1⟩
  case round =>
    obtain ⟨m, z, L, rfl, hz1, hz2, hmn, hL, hLB, hown, hbel⟩ := hrel
    have HB : Hid (L ++ be m s = (o + 56 - 1 + n) :: be n s) := hLB
    clear hLB hown1 hbel1
    by_cases hm : m = 0
    · subst hm
      have hz : ¬ 0 ≤ z := by omega
      go_wp2
      go_ret
      exact ⟨_, L, rfl, .inr ⟨by omega, n, tn, by have := HB.out; simp only [be, List.append_nil] at this; rw [this, show o + 56 - 1 + (n : Int) = o + 55 + n by omega]⟩, hown, hbel⟩
    · obtain ⟨k, rfl⟩ : ∃ k, m = k + 1 := ⟨m - 1, by omega⟩
      obtain rfl : z = (k : Int) := by omega
      have hnext := be_step L s k
      have HN : Hid ((L ++ [(s : Int) / 2 ^ (8 * k) % 256]) ++ be k s = L ++ be (k + 1) s) := hnext
      clear hnext
      go_wp2_with (at_builtin; refine app1 (.tmp 35) (.tmp 41) ?_ ?_ wr ((s : Int) / 2 ^ (8 * k) % 256) ?_ w.heap.size u0 L ?_ ?_ ?_ ?_ ?_ ?_; rfl; rfl; rfl; rfl; rfl; exact hown; omega; exact hbel.size; intro v2 w2 hown2 hbel2)
      go_roundw
      case rel => exact ⟨k, _, _, rfl, by omega, by omega, by omega, by simp; omega, HN.out.trans HB.out, hown2, hbel.trans hbel2⟩
      case measure => simp [intOf]

end Go.Proofs.Qxb6001654a
