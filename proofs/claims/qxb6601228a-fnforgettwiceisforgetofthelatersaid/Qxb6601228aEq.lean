import Derived.Test.Qxb6601228aRow
import Derived.ChangeKeysEq
import Derived.Deep.WholeRow
namespace Go.Proofs.Qxb6601228a
open Go.RowKit

theorem cells5 : Try.prog.cellsOf 5 = 1 := by kernel_rfl
theorem plain5 : Try.prog.plainKey 5 = true := by kernel_rfl
theorem info5 : (Try.prog.info? 5).isSome = true := by kernel_rfl

theorem eqItems_refl (d : Nat) (xs : Array Value) (w : World) : ∀ (is : List Nat), (∀ i ∈ is, ∃ z : Int, xs[i]? = some (.int .u8 z)) →
    (Op.eqItems (d + 1) 5 1 xs xs is).run Try.prog w = .ok true w
  | [], _ => by simp [Op.eqItems]
  | i :: is, h => by
    obtain ⟨z, hz⟩ := h i (by simp)
    have hp := run_part_plain w plain5 (xs := xs) (off := i) hz
    have he : (Op.equalIn (d + 1) 5 (.int .u8 z) (.int .u8 z)).run Try.prog w = .ok true w := by simp [Op.equalIn, run_underlying Try.underlying5]
    simp only [Op.eqItems, Nat.mul_one, Sem.run_bind, hp, he, Result.andThen_ok, Bool.not_true, Bool.false_eq_true, if_false]
    exact eqItems_refl d xs w is fun j hj => h j (by simp [hj])

theorem equal16 (cs : List Value) (hl : cs.length = 16) (hb : ∀ v ∈ cs, IsByte v) (w : World) :
    (Op.equalIn 10000 27 (.agg cs.toArray) (.agg cs.toArray)).run Try.prog w = .ok true w := by
  obtain ⟨i, hi⟩ := Option.isSome_iff_exists.1 info5
  rw [run_equalIn_array w 9999 cs.toArray cs.toArray und27 hi, cells5]
  refine eqItems_refl 9998 _ w _ fun j hj => ?_
  have hj' : j < cs.length := by rw [hl]; simpa using hj
  obtain ⟨z, hz⟩ := hb cs[j] (List.getElem_mem hj')
  exact ⟨z, by rw [← hz]; simp [hj']⟩

/-- the store of an array into the block that was made last -/
theorem wpList_store_new {ops : Array Oper} {rest : List Oper} {op : Oper} {a : Act} {w : World} {Q : Exit → Act → World → Prop} (hgd : op.guard = none) (ty : TypeId) (x y : Operand) (ho : op.op = .store ty x y)
    (b : Nat) (hbs : w.heap.size = b) (c cells : Array Value) (hx : a.eval x = .pointer (some ⟨b, 0, none⟩)) (hy : a.eval y = .agg cells)
    (hi : (Try.prog.info? ty).map (·.size) = some cells.size) (hc : c.size = cells.size) (h1 : cells.all (·.oneCell') = true)
    (h : wpList Try.prog ops Q rest (a.put op.dst undef) (w.alloc (.cells cells ty))) : wpList Try.prog ops Q (op :: rest) a (w.alloc (.cells c ty)) :=
  wpList_plain hgd fun K hK => by
    subst hbs
    unfold Oper.wp execOp
    simp only [ho, hx, hy, Sem.run_bind, Sem.run_pure, run_storeAt_new w ty c cells hi hc h1, Result.andThen_ok]
    exact hK _ _ h

theorem range_new1 (w : World) (cs : List Value) (t : TypeId) : (w.alloc (.cells cs.toArray t)).rangeAt w.heap.size 0 cs := fun j v hv => by
  rw [cell_of_row _ _ _ _ _ _ (heap_alloc_last w _)]; simpa using hv

theorem range_new2 (w : World) (cs ds : List Value) (t u : TypeId) : ((w.alloc (.cells ds.toArray u)).alloc (.cells cs.toArray t)).rangeAt (w.heap.size + 1) 0 cs := by
  have := range_new1 (w.alloc (.cells ds.toArray u)) cs t
  rwa [show (w.alloc (.cells ds.toArray u)).heap.size = w.heap.size + 1 from by simp] at this

end Go.Proofs.Qxb6601228a
