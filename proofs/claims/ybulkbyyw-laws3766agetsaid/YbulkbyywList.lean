import Derived.Test.YbulkbyywAtomic
namespace Go.Proofs.Ybulkbyyw
open Go.RowKit

set_option maxHeartbeats 2000000 in
set_option maxRecDepth 100000 in
/-- waitList.push onto an empty list: B: the buffer's block (its list at offset 13), W: the waiting value's block. -/
theorem lpush (B W : Nat) (u0 u1 u2 u3 : Value) (w : World) (hBW : B ≠ W)
    (b0 : w.cell? ⟨B, 13, none⟩ = some (.pointer none)) (b1 : w.cell? ⟨B, 14, none⟩ = some (.pointer none)) (b2 : w.cell? ⟨B, 15, none⟩ = some (.int .i64 0))
    (c0 : w.cell? ⟨W, 0, none⟩ = some u0) (c1 : w.cell? ⟨W, 1, none⟩ = some u1) (c2 : w.cell? ⟨W, 2, none⟩ = some u2) (c3 : w.cell? ⟨W, 3, none⟩ = some u3)
    (zb : ∀ o, w.frozen? ⟨B, o, none⟩ = false) (zw : ∀ o, w.frozen? ⟨W, o, none⟩ = false) :
    Calls Yba.prog 6 #[.pointer (some ⟨B, 13, none⟩), .pointer (some ⟨W, 0, none⟩), .pointer (some ⟨W, 0, none⟩)] w fun e w' => e = .returned (.tuple #[]) ∧
      w' = ((((((w.setCell ⟨W, 0, none⟩ (.pointer (some ⟨W, 0, none⟩))).setCell ⟨W, 1, none⟩ (.pointer none)).setCell ⟨W, 2, none⟩ (.pointer none)).setCell ⟨W, 3, none⟩ (.bool true)).setCell ⟨B, 13, none⟩ (.pointer (some ⟨W, 0, none⟩))).setCell ⟨B, 14, none⟩ (.pointer (some ⟨W, 0, none⟩))).setCell ⟨B, 15, none⟩ (.int .i64 1) := by
  have hWB : W ≠ B := fun e => hBW e.symm
  go_enter Yba.func6, Yba.ntmps6
  go_wp2
  go_end0
  exact ⟨rfl, rfl⟩

set_option maxHeartbeats 2000000 in
set_option maxRecDepth 100000 in
/-- waitList.pop of an empty list. -/
theorem lpop_none (B : Nat) (w : World) (b0 : w.cell? ⟨B, 13, none⟩ = some (.pointer none)) :
    Calls Yba.prog 12 #[.pointer (some ⟨B, 13, none⟩)] w fun e w' => e = .returned (.pointer none) ∧ w' = w := by
  go_enter Yba.func12, Yba.ntmps12
  go_wp2
  go_ret
  exact ⟨rfl, rfl⟩

set_option maxHeartbeats 2000000 in
set_option maxRecDepth 100000 in
/-- waitList.pop of a list of one. -/
theorem lpop_one (B W : Nat) (w : World) (hBW : B ≠ W)
    (b0 : w.cell? ⟨B, 13, none⟩ = some (.pointer (some ⟨W, 0, none⟩))) (b1 : w.cell? ⟨B, 14, none⟩ = some (.pointer (some ⟨W, 0, none⟩))) (b2 : w.cell? ⟨B, 15, none⟩ = some (.int .i64 1))
    (c0 : w.cell? ⟨W, 0, none⟩ = some (.pointer (some ⟨W, 0, none⟩))) (c1 : w.cell? ⟨W, 1, none⟩ = some (.pointer none)) (c2 : w.cell? ⟨W, 2, none⟩ = some (.pointer none)) (c3 : w.cell? ⟨W, 3, none⟩ = some (.bool true))
    (zb : ∀ o, w.frozen? ⟨B, o, none⟩ = false) (zw : ∀ o, w.frozen? ⟨W, o, none⟩ = false) :
    Calls Yba.prog 12 #[.pointer (some ⟨B, 13, none⟩)] w fun e w' => e = .returned (.pointer (some ⟨W, 0, none⟩)) ∧
      w' = (((((w.setCell ⟨B, 13, none⟩ (.pointer none)).setCell ⟨B, 14, none⟩ (.pointer none)).setCell ⟨W, 1, none⟩ (.pointer none)).setCell ⟨W, 2, none⟩ (.pointer none)).setCell ⟨W, 3, none⟩ (.bool false)).setCell ⟨B, 15, none⟩ (.int .i64 0) := by
  have hWB : W ≠ B := fun e => hBW e.symm
  go_enter Yba.func12, Yba.ntmps12
  go_wp2
  go_end0
  go_wp2
  go_ret
  exact ⟨rfl, rfl⟩
end Go.Proofs.Ybulkbyyw
