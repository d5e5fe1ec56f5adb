/-
  '==' on the table's state: two equal states are equal.
-/
import Derived.Test.Qxb6601961aNew
import Derived.ChangeKeysEq
namespace Go.Proofs.Qxb6601961a
open Go.RowKit
set_option linter.unusedVariables false

theorem eqItems_self (w : World) (k : Nat) (xs : Array Value) : ∀ (is : List Nat), (∀ i ∈ is, ∃ x : Int, xs[i]? = some (.int .u8 x)) → (Op.eqItems (k + 1) 5 1 xs xs is).run Try.prog w = .ok true w
  | [], _ => by simp [Op.eqItems]
  | i :: is, h => by
    obtain ⟨x, hx⟩ := h i (by simp)
    have p1 : (part 5 xs (i * 1)).run Try.prog w = .ok (.int .u8 x) w := run_part_plain w (by kernel_rfl) (by rw [Nat.mul_one]; exact hx)
    have p2 := run_equalIn_int w k 5 .u8 .u8 x x Try.underlying5
    have ih := eqItems_self w k xs is (fun j hj => h j (by simp [hj]))
    simp only [Op.eqItems, Sem.run_bind, p1, p2, Result.andThen_ok]
    simpa using ih

set_option maxRecDepth 20000 in
theorem eq22 (w : World) (k : Nat) (c0 c1 c2 c3 c4 c5 c6 c7 c8 c9 c10 c11 c12 c13 c14 : UInt8) :
    (Op.equalIn (k + 1 + 1) 22 (.agg #[B c0, B c1, B c2, B c3, B c4, B c5, B c6, B c7, B c8, B c9, B c10, B c11, B c12, B c13, B c14]) (.agg #[B c0, B c1, B c2, B c3, B c4, B c5, B c6, B c7, B c8, B c9, B c10, B c11, B c12, B c13, B c14])).run Try.prog w = .ok true w := by
  obtain ⟨i, hi, _⟩ := info_parts (show (Try.prog.info? 5).map (fun i => (i.zero, i.size, i.bytes)) = some (some (.int .u8 0), 1, 1) by kernel_rfl)
  have h5 : Try.prog.cellsOf 5 = 1 := by kernel_rfl
  rw [run_equalIn_array w (k + 1) _ _ Try.underlying22 hi, h5]
  apply eqItems_self
  intro i hi
  have hi : i < 15 := by simpa using hi
  match i, hi with
  | 0, _ => exact ⟨_, rfl⟩
  | 1, _ => exact ⟨_, rfl⟩
  | 2, _ => exact ⟨_, rfl⟩
  | 3, _ => exact ⟨_, rfl⟩
  | 4, _ => exact ⟨_, rfl⟩
  | 5, _ => exact ⟨_, rfl⟩
  | 6, _ => exact ⟨_, rfl⟩
  | 7, _ => exact ⟨_, rfl⟩
  | 8, _ => exact ⟨_, rfl⟩
  | 9, _ => exact ⟨_, rfl⟩
  | 10, _ => exact ⟨_, rfl⟩
  | 11, _ => exact ⟨_, rfl⟩
  | 12, _ => exact ⟨_, rfl⟩
  | 13, _ => exact ⟨_, rfl⟩
  | 14, _ => exact ⟨_, rfl⟩

set_option maxRecDepth 20000 in
theorem eq30 (w : World) (c0 c1 c2 c3 c4 c5 c6 c7 c8 c9 c10 c11 c12 c13 c14 : UInt8) (n : Int) (b c d dn e : Bool) :
    (binOp .eql 30 (.agg #[B c0, B c1, B c2, B c3, B c4, B c5, B c6, B c7, B c8, B c9, B c10, B c11, B c12, B c13, B c14, .int .i64 n, .bool b, .bool c, .bool d, .bool dn, .bool e]) (.agg #[B c0, B c1, B c2, B c3, B c4, B c5, B c6, B c7, B c8, B c9, B c10, B c11, B c12, B c13, B c14, .int .i64 n, .bool b, .bool c, .bool d, .bool dn, .bool e])).run Try.prog w = .ok (.bool true) w := by
  have h22 := eq22 w 9997 c0 c1 c2 c3 c4 c5 c6 c7 c8 c9 c10 c11 c12 c13 c14
  rw [run_eql_struct]
  rw [run_equalIn_agg w 9999 30 _ _ (by kernel_rfl) (by kernel_rfl)]
  go_simp

end Go.Proofs.Qxb6601961a
