import Derived.Test.Qxb6601228aRow
import Derived.WalkSpells
import Derived.WalkLawsBesides
import Derived.Lib.SliceRun
namespace Go.Proofs.Qxb6601228a
open Go.RowKit

/-- 16 k zero bytes -/
def zs (k : Nat) : List Value := List.replicate (16 * k) (.int .u8 0)
/-- where a slice that is cut by k begins -/
def adv (o len k : Nat) : Nat := if len = k then o else o + 16 * k

theorem z16_eq : z16 = Array.replicate 16 (.int .u8 0) := rfl

theorem zeroCells16 (k : Nat) : (Builtin.zeroCells (Value.agg z16).cells k).toList = zs k := by
  apply List.ext_getElem?
  intro i
  simp only [Builtin.zeroCells, zs, Value.cells, z16_eq]
  have hm : i % 16 < 16 := Nat.mod_lt _ (by omega)
  by_cases h : i < 16 * k
  · have h' : i < k * 16 := by omega
    simp [h, h', hm, Array.getElem!_eq_getD]
  · have h' : ¬ i < k * 16 := by omega
    have h2 : 16 * k ≤ i := by omega
    have h3 : k * 16 ≤ i := by omega
    simp [h3, h2]

theorem length_zs (k : Nat) : (zs k).length = 16 * k := by simp [zs]
theorem mem_zs {k : Nat} {v : Value} (h : v ∈ zs k) : v = .int .u8 0 := List.eq_of_mem_replicate h

theorem run_clear16 (w : World) (ty : TypeId) (b o k c : Nat) (ht : w.there b o (16 * k)) :
    (Builtin.clear_ #[32] ty #[.slice (some ⟨b, o, none⟩) k c]).run Try.prog w = .ok (.tuple #[]) (w.setCells b o (zs k)) := by
  cases k with
  | zero => simp [Builtin.clear_, run_underlying Try.underlying32, zs, World.setCells]
  | succ m =>
    have hst := run_storeCells_cells (P := Try.prog) b o (zs (m + 1)) 0 w (fun j hj => by simpa using (ht j (by rwa [length_zs] at hj)).1) (fun j hj => by simpa using (ht j (by rwa [length_zs] at hj)).2) (by intro v hv; rw [mem_zs hv]; rfl)
    simp only [Nat.add_zero] at hst
    have hz := zeroCells16 (m + 1)
    unfold z16 at hz
    simp [Builtin.clear_, run_underlying Try.underlying32, hz, hst]

theorem run_cut_high (w : World) (b o len k : Nat) (hk : k ≤ len) :
    (Instr.slice 32 (.slice (some ⟨b, o, none⟩) len len) none (some (.int .i64 (k : Int))) none).run Try.prog w = .ok (.slice (some ⟨b, o, none⟩) k len) w := by
  obtain ⟨i, hi, hs⟩ := Option.map_eq_some_iff.1 size28
  simp [Instr.slice, run_underlying Try.underlying32, Instr.sliceBounds, Instr.sliceBound, asIntOf, hk, sizeOf, typeInfo, hi, Addr.add, Sem.run_bind]

theorem run_cut_low (w : World) (b o len k : Nat) (hk : k ≤ len) :
    (Instr.slice 32 (.slice (some ⟨b, o, none⟩) len len) (some (.int .i64 (k : Int))) none none).run Try.prog w = .ok (.slice (some ⟨b, adv o len k, none⟩) (len - k) (len - k)) w := by
  obtain ⟨i, hi, hs⟩ := Option.map_eq_some_iff.1 size28
  have hs' : i.size = 16 := hs
  simp [Instr.slice, run_underlying Try.underlying32, Instr.sliceBounds, Instr.sliceBound, asIntOf, hk, sizeOf, typeInfo, hi, hs', Sem.run_bind]
  unfold adv Addr.add
  by_cases e : len = k
  · simp [e]
  · by_cases e0 : k = 0
    · simp [e0]
    · have e1 : ¬ k * 16 = 0 := by omega
      simp [e, e1, Nat.mul_comm]

theorem wrap64_in {x : Int} (h1 : -9223372036854775808 ≤ x) (h2 : x ≤ 9223372036854775807) : wrap64 x = x := by unfold wrap64; omega

/-- the world behind a Forget that drops k frames -/
def fgt (w : World) (bs bp o len k : Nat) (F' : Int) : World :=
  ((w.setCells bp o (zs k)).setCell ⟨bs, 1, none⟩ (.slice (some ⟨bp, adv o len k, none⟩) (len - k) (len - k))).setCell ⟨bs, 0, none⟩ (.int .i64 F')

set_option maxHeartbeats 400000 in
theorem forget_any (bs bp o len : Nat) (F T : Int) (w : World) (hlen : len ≤ 65536) (hF1 : -9223372036854775808 ≤ F) (hF2 : 0 < len → F + 60 * ((len : Int) - 1) ≤ 9223372036854775807)
    (hne : bs ≠ bp) (c0 : w.cell? ⟨bs, 0, none⟩ = some (.int .i64 F)) (c1 : w.cell? ⟨bs, 1, none⟩ = some (.slice (some ⟨bp, o, none⟩) len len))
    (f0 : w.frozen? ⟨bs, 0, none⟩ = false) (f1 : w.frozen? ⟨bs, 1, none⟩ = false) (hth : w.there bp o (16 * len)) :
    Calls Try.prog 14 #[.pointer (some ⟨bs, 0, none⟩), .int .i64 T] w fun e w' => e = .returned (.tuple #[]) ∧
      ∃ k : Nat, k ≤ len ∧ (∀ j : Nat, j < k → F + 60 * (j : Int) < T) ∧ (k < len → T ≤ F + 60 * (k : Int)) ∧ w' = fgt w bs bp o len k (wrap64 (F + 60 * (k : Int))) := by
  go_enter Try.func14, Try.ntmps14
  go_wp2
  go_loop [4] (fun i => ∃ k : Nat, k ≤ len ∧ i = .int .i64 k ∧ ∀ j : Nat, j < k → F + 60 * (j : Int) < T) (fun i => len - (intOf i).toNat)
  case atStart => exact ⟨0, Nat.zero_le _, rfl, fun j hj => absurd hj (Nat.not_lt_zero _)⟩
  case round =>
    obtain ⟨k, hk, rfl, hj⟩ := hrel
    have HJ : Hid (∀ j : Nat, j < k → F + 60 * (j : Int) < T) := hj
    clear hj
    have hcl : ∀ ty, (Builtin.clear_ #[32] ty #[.slice (some ⟨bp, o, none⟩) k len]).run Try.prog w = .ok (.tuple #[]) (w.setCells bp o (zs k)) := fun ty => run_clear16 w ty bp o k len (there_sub hth (Nat.le_refl _) (by omega))
    have hs1 := fun w => run_cut_high w bp o len k hk
    have hs2 := fun w => run_cut_low w bp o len k hk
    have d0 : (w.setCells bp o (zs k)).cell? ⟨bs, 0, none⟩ = some (.int .i64 F) := by rw [World.cell?_setCells_out _ _ _ _ _ (fun h => absurd h hne)]; exact c0
    have d1 : (w.setCells bp o (zs k)).cell? ⟨bs, 1, none⟩ = some (.slice (some ⟨bp, o, none⟩) len len) := by rw [World.cell?_setCells_out _ _ _ _ _ (fun h => absurd h hne)]; exact c1
    have g0 : (w.setCells bp o (zs k)).frozen? ⟨bs, 0, none⟩ = false := by rw [World.frozen?_setCells]; exact f0
    have g1 : (w.setCells bp o (zs k)).frozen? ⟨bs, 1, none⟩ = false := by rw [World.frozen?_setCells]; exact f1
    by_cases hlt : k < len
    · have hF := hF2 (by omega)
      by_cases hT : F + (k : Int) * 60 < T
      · go_wp2
        go_round
        case rel => exact ⟨k + 1, by omega, by go_num, fun j hj => by
          by_cases e : j = k
          · subst e; omega
          · exact HJ.out j (by omega)⟩
        case measure => simp [intOf]; omega
      · go_wp2
        go_end0
        exact ⟨rfl, k, hk, HJ.out, fun _ => by omega, by unfold fgt; rw [Int.mul_comm 60, wrap64_in (by omega) (by omega)]⟩
    · go_wp2
      go_end0
      exact ⟨rfl, k, hk, HJ.out, fun h => absurd h hlt, by unfold fgt; rw [Int.mul_comm 60]⟩

end Go.Proofs.Qxb6601228a
