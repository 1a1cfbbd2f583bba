import Derived.Test.Qxb6601228aEq
namespace Go.Proofs.Qxb6601228a
open Go.RowKit

section
variable {ops : Array Oper} {rest : List Oper} {op : Oper} {a : Act} {w : World} {Q : Exit → Act → World → Prop}
/-- a guard: the goal is a list of operations -/
theorem isWpList {l : List Oper} (h : wpList Try.prog ops Q l a w) : wpList Try.prog ops Q l a w := h
/-- the load of an array: type 27 -/
theorem ld27 (x : Operand) (hgd : op.guard = none) (ho : op.op = .load 27 x) (b o : Nat) (cs : List Value) (hc : w.rangeAt b o cs) (hl : Hid (cs.length = 16)) (hx : a.eval x = .pointer (some ⟨b, o, none⟩))
    (h : wpList Try.prog ops Q rest (a.put op.dst (.agg cs.toArray)) w) : wpList Try.prog ops Q (op :: rest) a w :=
  wpList_load_mid hgd 27 x ho b o hx cs (.array 16 5) hc und27 rfl (by rw [hl.out]; exact size27) h
/-- the load of an array: type 28 -/
theorem ld28 (x : Operand) (hgd : op.guard = none) (ho : op.op = .load 28 x) (b o : Nat) (cs : List Value) (hc : w.rangeAt b o cs) (hl : Hid (cs.length = 16)) (hx : a.eval x = .pointer (some ⟨b, o, none⟩))
    (h : wpList Try.prog ops Q rest (a.put op.dst (.agg cs.toArray)) w) : wpList Try.prog ops Q (op :: rest) a w :=
  wpList_load_mid hgd 28 x ho b o hx cs (.array 16 5) hc und28 rfl (by rw [hl.out]; exact size28) h
/-- the store of an array into the newest block -/
theorem st27 (x y : Operand) (hgd : op.guard = none) (ho : op.op = .store 27 x y) (w1 : World)
    (hW : w = w1.alloc (.cells #[.int .u8 0, .int .u8 0, .int .u8 0, .int .u8 0, .int .u8 0, .int .u8 0, .int .u8 0, .int .u8 0, .int .u8 0, .int .u8 0, .int .u8 0, .int .u8 0, .int .u8 0, .int .u8 0, .int .u8 0, .int .u8 0] 27))
    (b : Nat) (hbs : Hid (w1.heap.size = b)) (cs : List Value) (hl : Hid (cs.length = 16)) (hb : ∀ v ∈ cs, IsByte v)
    (hx : a.eval x = .pointer (some ⟨b, 0, none⟩)) (hy : a.eval y = .agg cs.toArray)
    (h : wpList Try.prog ops Q rest (a.put op.dst undef) (w1.alloc (.cells cs.toArray 27))) : wpList Try.prog ops Q (op :: rest) a w := by
  subst hW
  exact wpList_store_new hgd 27 x y ho b hbs.out _ cs.toArray hx hy (by simp only [List.size_toArray]; rw [hl.out]; exact size27) (by simp only [List.size_toArray]; rw [hl.out]; rfl) (all_oneCell_toArray fun v hv => (hb v hv).one) h
end

end Go.Proofs.Qxb6601228a
