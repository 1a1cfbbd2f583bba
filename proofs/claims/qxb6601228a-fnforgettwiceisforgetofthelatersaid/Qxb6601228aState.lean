import Derived.Test.Qxb6601228aClone
import Derived.Test.Qxb6601228aForget
import Derived.Test.Qxb6601228aSame
namespace Go.Proofs.Qxb6601228a
open Go.RowKit

/-- where n arrays lie that a slice leads to -/
def Src (w : World) (a : Option Addr) (n : Nat) (A : Nat → List Value) : Prop :=
  0 < n → ∃ b off, a = some ⟨b, off, none⟩ ∧ b < w.heap.size ∧ ∀ i, i < n → w.rangeAt b (off + 16 * i) (A i)

theorem Src.below {w w' : World} {a : Option Addr} {n : Nat} {A : Nat → List Value} (h : Src w a n A) (hb : Below w.heap.size w w') : Src w' a n A := fun hn => by
  obtain ⟨b, off, ha, hlt, hr⟩ := h hn
  exact ⟨b, off, ha, Nat.lt_of_lt_of_le hlt hb.size, fun i hi => rangeAt_below hb (hr i hi) hlt⟩

/-- a schedule at block s, its array at block p: K of its n frames are forgotten -/
structure St (w : World) (s p n : Nat) (A : Nat → List Value) (K : Nat) (F : Int) (O : Nat) : Prop where
  ne : s ≠ p
  hs : s < w.heap.size
  hp : p < w.heap.size
  le : K ≤ n
  at_ : K < n → O = 16 * K
  c0 : w.cell? ⟨s, 0, none⟩ = some (.int .i64 F)
  c1 : w.cell? ⟨s, 1, none⟩ = some (.slice (some ⟨p, O, none⟩) (n - K) (n - K))
  f0 : w.frozen? ⟨s, 0, none⟩ = false
  f1 : w.frozen? ⟨s, 1, none⟩ = false
  th : w.there p 0 (16 * n)
  rg : ∀ i, i < n → w.rangeAt p (16 * i) (if i < K then zs 1 else A i)

theorem St.below {w w' : World} {s p n K O B : Nat} {A : Nat → List Value} {F : Int} (h : St w s p n A K F O) (hb : Below B w w') (h1 : s < B) (h2 : p < B) : St w' s p n A K F O :=
  ⟨h.ne, Nat.lt_of_lt_of_le h.hs hb.size, Nat.lt_of_lt_of_le h.hp hb.size, h.le, h.at_,
   (hb.cell (p := ⟨s, 0, none⟩) h1).trans h.c0, (hb.cell (p := ⟨s, 1, none⟩) h1).trans h.c1, (hb.frozen (p := ⟨s, 0, none⟩) h1).trans h.f0, (hb.frozen (p := ⟨s, 1, none⟩) h1).trans h.f1,
   there_below hb h.th h2, fun i hi => rangeAt_below hb (h.rg i hi) h2⟩

theorem ok_dropped {n K : Nat} {A : Nat → List Value} (hA : Ok16 n A) : Ok16 n (fun i => if i < K then zs 1 else A i) := fun i hi => by
  by_cases e : i < K
  · simp only [e, if_true]
    exact ⟨length_zs 1, fun v hv => ⟨0, mem_zs hv⟩⟩
  · simp only [e, if_false]
    exact hA i hi

theorem size_fgt (w : World) (s p o len k : Nat) (F : Int) : (fgt w s p o len k F).heap.size = w.heap.size := by
  unfold fgt; simp [World.setCell, size_setCells]

theorem below_fgt {B : Nat} {w0 w : World} (h : Below B w0 w) {s p : Nat} (hs : B ≤ s) (hp : B ≤ p) (o len k : Nat) (F : Int) : Below B w0 (fgt w s p o len k F) := by
  unfold fgt
  exact ((below_setCells p hp _ _ _ h).setCell (p := ⟨s, 1, none⟩) hs _).setCell (p := ⟨s, 0, none⟩) hs _

theorem setCell_as (w : World) (b o : Nat) (v : Value) : w.setCell ⟨b, o, none⟩ v = w.setCells b o [v] := rfl

theorem St.fgt {w : World} {s p n K O k : Nat} {A : Nat → List Value} {F : Int} (h : St w s p n A K F O) (hk : K + k ≤ n) (F' : Int) :
    St (fgt w s p O (n - K) k F') s p n A (K + k) F' (adv O (n - K) k) := by
  have hne := h.ne
  have hth : ∀ {w : World}, w.there p 0 (16 * n) → (Qxb6601228a.fgt w s p O (n - K) k F').there p 0 (16 * n) := fun hw => by
    unfold Qxb6601228a.fgt
    rw [setCell_as, setCell_as]
    exact World.there_setCells (World.there_setCells (World.there_setCells hw _ _ _) _ _ _) _ _ _
  have d0 : (w.setCells p O (zs k)).cell? ⟨s, 0, none⟩ = some (.int .i64 F) := by rw [World.cell?_setCells_out _ _ _ _ _ (fun e => absurd e hne)]; exact h.c0
  have d1 : (w.setCells p O (zs k)).cell? ⟨s, 1, none⟩ = some (.slice (some ⟨p, O, none⟩) (n - K) (n - K)) := by rw [World.cell?_setCells_out _ _ _ _ _ (fun e => absurd e hne)]; exact h.c1
  refine ⟨hne, by rw [size_fgt]; exact h.hs, by rw [size_fgt]; exact h.hp, hk, fun hlt => ?_, ?_, ?_, ?_, ?_, hth h.th, fun i hi => ?_⟩
  · have := h.at_ (by omega)
    unfold adv
    rw [if_neg (by omega), this]
    omega
  · unfold Qxb6601228a.fgt
    have d0' : ((w.setCells p O (zs k)).setCell ⟨s, 1, none⟩ (.slice (some ⟨p, adv O (n - K) k, none⟩) (n - K - k) (n - K - k))).cell? ⟨s, 0, none⟩ = some (.int .i64 F) := by
      rw [World.cell?_setCell_other _ _ _ _ (by simp)]; exact d0
    exact World.cell?_setCell_same _ _ _ d0'
  · unfold Qxb6601228a.fgt
    rw [World.cell?_setCell_other _ _ _ _ (by simp), World.cell?_setCell_same _ _ _ d1, Nat.sub_sub]
  · unfold Qxb6601228a.fgt
    rw [World.frozen?_setCell, World.frozen?_setCell, World.frozen?_setCells]; exact h.f0
  · unfold Qxb6601228a.fgt
    rw [World.frozen?_setCell, World.frozen?_setCell, World.frozen?_setCells]; exact h.f1
  · unfold Qxb6601228a.fgt
    rw [setCell_as, setCell_as]
    refine World.rangeAt_setCells_apart (World.rangeAt_setCells_apart ?_ _ _ _ (.inl hne.symm)) _ _ _ (.inl hne.symm)
    by_cases hk0 : k = 0
    · subst hk0
      have : zs 0 = [] := rfl
      rw [this]
      exact h.rg i hi
    · have hO := h.at_ (by omega)
      subst hO
      by_cases e1 : i < K
      · rw [if_pos (by omega)]
        have := h.rg i hi
        rw [if_pos e1] at this
        exact World.rangeAt_setCells_apart this _ _ _ (.inr (.inl (by rw [length_zs]; omega)))
      · by_cases e2 : i < K + k
        · rw [if_pos e2]
          intro j v hv
          have hj : j < (zs 1).length := (List.getElem?_eq_some_iff.1 hv).1
          rw [length_zs] at hj
          have hj2 : 16 * (i - K) + j < (zs k).length := by rw [length_zs]; omega
          have := World.cell?_setCells_in p (zs k) (16 * K) w (fun j hj => by
            have := (h.th (16 * K + j) (by rw [length_zs] at hj; omega)).1
            simpa using this) (16 * (i - K) + j) hj2
          rw [show 16 * i + j = 16 * K + (16 * (i - K) + j) by omega, this]
          have e3 : (zs k)[16 * (i - K) + j] = .int .u8 0 := mem_zs (List.getElem_mem hj2)
          have e4 : v = .int .u8 0 := mem_zs (List.mem_of_getElem? hv)
          rw [e3, e4]
        · rw [if_neg e2]
          have := h.rg i hi
          rw [if_neg e1] at this
          exact World.rangeAt_setCells_apart this _ _ _ (.inr (.inr (by rw [length_zs]; omega)))

/-! ### the contracts, one for every length -/

theorem clone_all (a : Option Addr) (n c : Nat) (A : Nat → List Value) (w : World) (hn : n ≤ 65536) (hA : Ok16 n A) (hnil : a = none → n = 0 ∧ c = 0) (hsrc : Src w a n A) :
    Calls Try.prog 8 #[.slice a n c] w fun e w' => ∃ a', e = .returned (.slice a' n n) ∧ Src w' a' n A ∧ Below w.heap.size w w' := by
  by_cases h0 : n = 0
  · subst h0
    cases a with
    | none =>
      obtain rfl : c = 0 := (hnil rfl).2
      exact (clone_nil w).mono fun e w' ⟨h1, h2⟩ => ⟨none, h1, fun h => absurd h (Nat.lt_irrefl _), by rw [h2]; exact Below.refl _ _⟩
    | some x =>
      exact (clone_zero x c w).mono fun e w' ⟨h1, h2⟩ => ⟨_, h1, fun h => absurd h (Nat.lt_irrefl _), by rw [h2]; exact (Below.refl _ _).alloc (Nat.le_refl _) _⟩
  · obtain ⟨b, off, rfl, hb, hr⟩ := hsrc (by omega)
    exact (clone_any b off n c A w hn hA hr hb).mono fun e w' ⟨h1, _, h3, h4, h5⟩ => ⟨_, h1, fun _ => ⟨w.heap.size, 0, rfl, by omega, fun i hi => by rw [Nat.zero_add]; exact h3 i hi⟩, h5⟩

theorem St_new {w w1 : World} {n : Nat} {A : Nat → List Value} (F : Int) (hth : w1.there w.heap.size 0 (16 * n)) (hr : ∀ i, i < n → w1.rangeAt w.heap.size (16 * i) (A i)) (hsz : w1.heap.size = w.heap.size + 1) :
    St (w1.alloc (.cells #[.int .i64 F, .slice (some ⟨w.heap.size, 0, none⟩) n n] 38)) (w.heap.size + 1) w.heap.size n A 0 F 0 := by
  have hb : (w1.alloc (.cells #[.int .i64 F, .slice (some ⟨w.heap.size, 0, none⟩) n n] 38)).heap[w.heap.size + 1]? = some (.cells #[.int .i64 F, .slice (some ⟨w.heap.size, 0, none⟩) n n] 38 (0, 0)) := by
    rw [← hsz]; exact heap_alloc_last w1 _
  refine ⟨by omega, by simp [hsz], by simp [hsz]; omega, Nat.zero_le _, fun _ => rfl, ?_, ?_, ?_, ?_, World.there_alloc hth _, fun i hi => ?_⟩
  · rw [cell_of_row _ _ _ _ _ _ hb]; rfl
  · rw [cell_of_row _ _ _ _ _ _ hb]; rfl
  · exact frozen_of_row _ _ _ _ _ hb
  · exact frozen_of_row _ _ _ _ _ hb
  · rw [if_neg (by omega)]; exact World.rangeAt_alloc (hr i hi) _

theorem new_all (F : Int) (a : Option Addr) (n c : Nat) (A : Nat → List Value) (w : World) (hn : n ≤ 65536) (hA : Ok16 n A) (hsrc : Src w a n A) :
    Calls Try.prog 9 #[.int .i64 F, .slice a n c] w fun e w' => ∃ s p, e = .returned (.pointer (some ⟨s, 0, none⟩)) ∧ St w' s p n A 0 F 0 ∧ w.heap.size ≤ s ∧ w.heap.size ≤ p ∧ Below w.heap.size w w' := by
  by_cases h0 : n = 0
  · subst h0
    refine (new_zero F a c w).mono fun e w' ⟨h1, h2⟩ => ⟨_, w.heap.size, h1, ?_, by omega, by omega, ?_⟩
    · rw [h2]
      exact St_new F (there_made16 w 28 0) (fun i hi => absurd hi (Nat.not_lt_zero _)) (by simp)
    · rw [h2]
      exact ((Below.refl _ _).alloc (Nat.le_refl _) _).alloc (by simp) _
  · obtain ⟨b, off, rfl, hb, hr⟩ := hsrc (by omega)
    refine (new_pos F b off n c A w hn hA hr hb).mono fun e w' ⟨h1, w1, h2, h3, h4, h5, h6⟩ => ⟨_, w.heap.size, h1, ?_, by omega, by omega, ?_⟩
    · rw [h6]; exact St_new F h2 h3 h4
    · rw [h6]; exact h5.alloc (by omega) _

theorem forget_all {s p n K O : Nat} {A : Nat → List Value} {F : Int} (T : Int) (w : World) (hn : n ≤ 65536) (h : St w s p n A K F O)
    (hF1 : -9223372036854775808 ≤ F) (hF2 : K < n → F + 60 * (((n - K : Nat) : Int) - 1) ≤ 9223372036854775807) :
    Calls Try.prog 14 #[.pointer (some ⟨s, 0, none⟩), .int .i64 T] w fun e w' => ∃ k O', e = .returned (.tuple #[]) ∧ K + k ≤ n ∧ (∀ j : Nat, j < k → F + 60 * (j : Int) < T) ∧ (K + k < n → T ≤ F + 60 * (k : Int)) ∧
      St w' s p n A (K + k) (wrap64 (F + 60 * (k : Int))) O' ∧ (∀ B w0, B ≤ s → B ≤ p → Below B w0 w → Below B w0 w') ∧ w'.heap.size = w.heap.size := by
  have hth : w.there p O (16 * (n - K)) := by
    by_cases e : K < n
    · have := h.at_ e
      exact there_sub h.th (by omega) (by omega)
    · intro j hj
      omega
  refine (forget_any s p O (n - K) F T w (by omega) hF1 (fun h => hF2 (by omega)) h.ne h.c0 h.c1 h.f0 h.f1 hth).mono fun e w' ⟨h1, k, h2, h3, h4, h5⟩ => ?_
  have hle := h.le
  subst h5
  exact ⟨k, _, h1, by omega, h3, fun hlt => h4 (by omega), h.fgt (by omega) _, fun B w0 hs hp hb => below_fgt hb hs hp _ _ _ _, size_fgt _ _ _ _ _ _ _⟩

theorem same_all {s p s' p' n K O O' : Nat} {A : Nat → List Value} {F : Int} (w : World) (hn : n ≤ 65536) (hA : Ok16 n A) (h : St w s p n A K F O) (h' : St w s' p' n A K F O') :
    Calls Try.prog 17 #[.pointer (some ⟨s, 0, none⟩), .pointer (some ⟨s', 0, none⟩)] w fun e w' => e = .returned (.bool true) ∧ Below w.heap.size w w' := by
  have hle := h.le
  refine same_any s s' p p' O O' (n - K) F (fun i => A (K + i)) w (by omega) (fun i hi => hA (K + i) (by omega)) (fun i hi => ?_) (fun i hi => ?_) h.hp h'.hp h.c0 h.c1 h'.c0 h'.c1
  · have e := h.at_ (by omega)
    have r := h.rg (K + i) (by omega)
    rw [if_neg (by omega)] at r
    rw [e, show 16 * K + 16 * i = 16 * (K + i) by omega]; exact r
  · have e := h'.at_ (by omega)
    have r := h'.rg (K + i) (by omega)
    rw [if_neg (by omega)] at r
    rw [e, show 16 * K + 16 * i = 16 * (K + i) by omega]; exact r

end Go.Proofs.Qxb6601228a
