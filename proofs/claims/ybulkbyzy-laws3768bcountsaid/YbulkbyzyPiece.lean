import Derived.Test.YbulkbyzyInitial
namespace Go.Proofs.Ybulkbyzy
open Go.RowKit

/-- The piece of a byte, as the text reckons it. -/
def pc (b : Int) : Int × Int := (if b % 4 = 0 then 8 else b / 4 % 15, IntKind.i8.wrap (bits BinOp.and IntKind.u8 (b / 128) 1))

set_option maxHeartbeats 2000000 in
set_option maxRecDepth 100000 in
theorem piece_any (b : Int) (w : World) (h0 : 0 ≤ b) (h1 : b ≤ 255) :
    Calls Yba.prog 5 #[.int .u8 b] w fun e w' => e = .returned (.agg #[.int .i8 (pc b).1, .int .i8 (pc b).2]) ∧ w' = w.alloc (.cells #[.int .i8 (pc b).1, .int .i8 (pc b).2] 27) := by
  by_cases h4 : b % 4 = 0
  · have e1 : (pc b).1 = 8 := if_pos h4
    have e2 : (pc b).2 = IntKind.i8.wrap (bits BinOp.and IntKind.u8 (b / 128) 1) := rfl
    rw [e1, e2]
    clear e1 e2
    go_enter Yba.func5, Yba.ntmps5
    go_wp2
    exact bodyPost_ret (v := .agg #[.int .i8 8, .int .i8 (IntKind.i8.wrap (bits BinOp.and IntKind.u8 (b / 128) 1))]) (by simp [results, Yba.results5, go_sem]) rfl ⟨rfl, rfl⟩
  · have h4' : (b % 4 == 0) = false := by simp [h4]
    have e1 : (pc b).1 = b / 4 % 15 := if_neg h4
    have e2 : (pc b).2 = IntKind.i8.wrap (bits BinOp.and IntKind.u8 (b / 128) 1) := rfl
    rw [e1, e2]
    clear e1 e2
    go_enter Yba.func5, Yba.ntmps5
    go_wp2
    exact bodyPost_ret (v := .agg #[.int .i8 (b / 4 % 15), .int .i8 (IntKind.i8.wrap (bits BinOp.and IntKind.u8 (b / 128) 1))]) (by simp [results, Yba.results5, go_sem]) rfl ⟨rfl, rfl⟩
end Go.Proofs.Ybulkbyzy
