import Derived.Test.Qxb6601228aRows
import Derived.WalkKit
import Derived.Deep.MidRow
namespace Go.Proofs.Qxb6601228a
open Go.RowKit

/-- sixteen zero bytes -/
def z16 : Array Value := #[.int .u8 0, .int .u8 0, .int .u8 0, .int .u8 0, .int .u8 0, .int .u8 0, .int .u8 0, .int .u8 0, .int .u8 0, .int .u8 0, .int .u8 0, .int .u8 0, .int .u8 0, .int .u8 0, .int .u8 0, .int .u8 0]
/-- what make lays for n arrays -/
def made16 (n : Nat) : Array Value := madeCells z16 (n * 16)

theorem info27 : (Try.prog.info? 27).map (fun i => (i.zero, i.size, i.bytes)) = some (some (.agg z16), 16, 16) := by kernel_rfl
theorem info28 : (Try.prog.info? 28).map (fun i => (i.zero, i.size, i.bytes)) = some (some (.agg z16), 16, 16) := by kernel_rfl
theorem size27 : (Try.prog.info? 27).map (·.size) = some 16 := by kernel_rfl
theorem size28 : (Try.prog.info? 28).map (·.size) = some 16 := by kernel_rfl
theorem und27 : Try.prog.underlying 27 = some (.array 16 5) := by kernel_rfl
theorem und28 : Try.prog.underlying 28 = some (.array 16 5) := by kernel_rfl

theorem run_make16 (t e : TypeId) (ht : Try.prog.underlying t = some (.slice e)) (hinfo : (Try.prog.info? e).map (fun i => (i.zero, i.size, i.bytes)) = some (some (.agg z16), 16, 16))
    (n : Nat) (hn : n ≤ 1048576) (w : World) :
    (Instr.makeSlice t (.int .i64 (n : Int)) (.int .i64 (n : Int))).run Try.prog w = .ok (.slice (some ⟨w.heap.size, 0, none⟩) n n) (w.alloc (.cells (made16 n) e)) := by
  obtain ⟨i, hi, hzz⟩ := Option.map_eq_some_iff.1 hinfo
  simp only [Prod.mk.injEq] at hzz
  obtain ⟨hz, hs, hb⟩ := hzz
  have hr := run_make (P := Try.prog) w t e i (.agg z16) ht hi hz .i64 .i64 n n (by omega) (Int.le_refl _) (by rw [hb]; omega) (by omega)
  simp only [Int.toNat_natCast, hs, Value.cells] at hr
  exact hr

theorem size_made16 (n : Nat) : (made16 n).size = 16 * n := by rw [made16, size_madeCells, Nat.mul_comm]

theorem there_made16 (w : World) (e : TypeId) (n : Nat) : (w.alloc (.cells (made16 n) e)).there w.heap.size 0 (16 * n) := fun j hj => by
  have hb : (w.alloc (.cells (made16 n) e)).heap[w.heap.size]? = some (.cells (made16 n) e (0, 0)) := by show (w.heap.push _)[_]? = _; simp
  constructor
  · rw [cell_of_row _ _ _ _ _ _ hb, Array.getElem?_eq_getElem (by rw [size_made16]; omega)]; rfl
  · exact frozen_of_row _ _ _ _ _ hb

/-- a byte -/
def IsByte (v : Value) : Prop := ∃ z : Int, v = .int .u8 z
/-- n arrays of sixteen bytes -/
def Ok16 (n : Nat) (A : Nat → List Value) : Prop := ∀ i, i < n → (A i).length = 16 ∧ ∀ v ∈ A i, IsByte v

theorem IsByte.one {v : Value} (h : IsByte v) : v.oneCell' = true := by obtain ⟨z, rfl⟩ := h; rfl
theorem Ok16.one {n : Nat} {A : Nat → List Value} (h : Ok16 n A) {i : Nat} (hi : i < n) : (A i).toArray.all (·.oneCell') = true :=
  all_oneCell_toArray fun v hv => ((h i hi).2 v hv).one

theorem there_sub {w : World} {b o n o' n' : Nat} (h : w.there b o n) (h1 : o ≤ o') (h2 : o' + n' ≤ o + n) : w.there b o' n' := fun j hj => by
  have := h (o' + j - o) (by omega)
  rwa [show o + (o' + j - o) = o' + j by omega] at this

theorem below_setCells {B : Nat} {a : World} (b : Nat) (hb : B ≤ b) : ∀ (vs : List Value) (o : Nat) (w : World), Below B a w → Below B a (w.setCells b o vs)
  | [], _, _, h => h
  | v :: r, o, w, h => by
    rw [World.setCells]
    exact below_setCells b hb r (o + 1) _ (h.setCell (p := ⟨b, o, none⟩) hb v)

theorem size_setCells (b : Nat) : ∀ (vs : List Value) (o : Nat) (w : World), (w.setCells b o vs).heap.size = w.heap.size
  | [], _, _ => rfl
  | v :: r, o, w => by rw [World.setCells, size_setCells b r]; simp [World.setCell]

theorem rangeAt_below {B : Nat} {w w' : World} (hb : Below B w w') {b o : Nat} {cs : List Value} (h : w.rangeAt b o cs) (hlt : b < B) : w'.rangeAt b o cs := fun j v hv => by
  rw [hb.cell (p := ⟨b, o + j, none⟩) hlt]; exact h j v hv

theorem there_below {B : Nat} {w w' : World} (hb : Below B w w') {b o n : Nat} (h : w.there b o n) (hlt : b < B) : w'.there b o n := fun j hj => by
  rw [hb.cell (p := ⟨b, o + j, none⟩) hlt, hb.frozen (p := ⟨b, o + j, none⟩) hlt]; exact h j hj

/-- what a round of a copying loop does -/
theorem copy_step {w : World} {B n k : Nat} {A : Nat → List Value} (hA : Ok16 n A) (hk : k < n) (hth : w.there B 0 (16 * n)) (hdone : ∀ i, i < k → w.rangeAt B (16 * i) (A i)) :
    (w.setCells B (k * 16) (A k)).there B 0 (16 * n) ∧ ∀ i, i < k + 1 → (w.setCells B (k * 16) (A k)).rangeAt B (16 * i) (A i) := by
  refine ⟨World.there_setCells hth _ _ _, fun i hi => ?_⟩
  by_cases e : i = k
  · subst e
    rw [Nat.mul_comm 16 i]
    exact World.rangeAt_setCells_same _ _ _ _ (there_sub hth (by omega) (by rw [(hA i hk).1]; omega))
  · exact World.rangeAt_setCells_apart (hdone i (by omega)) _ _ _ (.inr (.inl (by rw [(hA i (by omega)).1]; omega)))

end Go.Proofs.Qxb6601228a
