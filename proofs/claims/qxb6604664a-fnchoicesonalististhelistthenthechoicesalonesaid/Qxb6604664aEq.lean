import Derived.Test.Qxb6604664aProd
import Derived.ChangeKeysEq
namespace Go.Proofs.Qxb6604664a
open Go.RowKit Go.Maps

theorem guard23 : Try.prog.eqGuardType Try.prog.depth 23 = false := by kernel_rfl
theorem guard22 : Try.prog.eqGuardType Try.prog.depth 22 = false := by kernel_rfl
theorem cells22 : Try.prog.cellsOf 22 = 2 := by kernel_rfl
theorem part22 (w : World) (x0 x1 x2 x3 x4 x5 : ByteArray) : (Go.part 22 #[.string x0, .string x1, .string x2, .string x3, .string x4, .string x5] 0).run Try.prog w = .ok (.agg #[.string x0, .string x1]) w ∧
    (Go.part 22 #[.string x0, .string x1, .string x2, .string x3, .string x4, .string x5] 2).run Try.prog w = .ok (.agg #[.string x2, .string x3]) w ∧ (Go.part 22 #[.string x0, .string x1, .string x2, .string x3, .string x4, .string x5] 4).run Try.prog w = .ok (.agg #[.string x4, .string x5]) w := by
  refine ⟨by kernel_rfl, by kernel_rfl, by kernel_rfl⟩
theorem part9 (w : World) (x0 x1 : ByteArray) : (Go.part 9 #[.string x0, .string x1] 0).run Try.prog w = .ok (.string x0) w ∧ (Go.part 9 #[.string x0, .string x1] 1).run Try.prog w = .ok (.string x1) w := by
  refine ⟨by kernel_rfl, by kernel_rfl⟩
theorem info9 : ∃ i, Try.prog.info? 9 = some i := Option.isSome_iff_exists.1 (by kernel_rfl)
theorem info22' : ∃ i, Try.prog.info? 22 = some i := Option.isSome_iff_exists.1 (by kernel_rfl)
theorem eq22 (d : Nat) (w : World) (x0 x1 : ByteArray) : (Op.equalIn (d + 2) 22 (.agg #[.string x0, .string x1]) (.agg #[.string x0, .string x1])).run Try.prog w = .ok true w := by
  obtain ⟨i, hi⟩ := info9
  rw [run_equalIn_array w (d + 1) _ _ Try.underlying22 hi, cells9]
  have h0 := (part9 w x0 x1).1
  have h1 := (part9 w x0 x1).2
  have r : List.range 2 = [0, 1] := rfl
  rw [r]
  simp [Op.eqItems, h0, h1, run_equalIn_string w d 9 _ _ Try.underlying9]
theorem eq23 (d : Nat) (w : World) (x0 x1 x2 x3 x4 x5 : ByteArray) : (Op.equalIn (d + 3) 23 (.agg #[.string x0, .string x1, .string x2, .string x3, .string x4, .string x5]) (.agg #[.string x0, .string x1, .string x2, .string x3, .string x4, .string x5])).run Try.prog w = .ok true w := by
  obtain ⟨i, hi⟩ := info22'
  rw [run_equalIn_array w (d + 2) _ _ Try.underlying23 hi, cells22]
  obtain ⟨h0, h1, h2⟩ := part22 w x0 x1 x2 x3 x4 x5
  have r : List.range 3 = [0, 1, 2] := rfl
  rw [r]
  simp [Op.eqItems, h0, h1, h2, eq22 d w]
theorem neq23 (w : World) (x0 x1 x2 x3 x4 x5 : ByteArray) : (binOp .neq 23 (.agg #[.string x0, .string x1, .string x2, .string x3, .string x4, .string x5]) (.agg #[.string x0, .string x1, .string x2, .string x3, .string x4, .string x5])).run Try.prog w = .ok (.bool false) w := by
  rw [run_neq_struct, show (10000 : Nat) = 9997 + 3 from rfl, eq23]
  rfl
theorem neq22 (w : World) (x0 x1 : ByteArray) : (binOp .neq 22 (.agg #[.string x0, .string x1]) (.agg #[.string x0, .string x1])).run Try.prog w = .ok (.bool false) w := by
  rw [run_neq_struct, show (10000 : Nat) = 9998 + 2 from rfl, eq22]
  rfl
theorem grd23 (op : BinOp) (x y : Operand) (xs ys : Array Value) (w : World) : (eqGuard op 23 x y (.agg xs) (.agg ys)).run Try.prog w = .ok () w := run_eqGuard_agg w op 23 x y xs ys guard23
theorem grd22 (op : BinOp) (x y : Operand) (xs ys : Array Value) (w : World) : (eqGuard op 22 x y (.agg xs) (.agg ys)).run Try.prog w = .ok () w := run_eqGuard_agg w op 22 x y xs ys guard22
end Go.Proofs.Qxb6604664a
