import Derived.Test.YbulkbywsRows
import Derived.WalkKit
import Derived.WalkSpells
import Derived.Lib.Strings
import Derived.Lib.Slices
import Derived.Lib.Walk
import Derived.Deep.QuietTactic
import Derived.BigQuiet
namespace Go.Proofs.Ybulkbyws
open Go.RowKit

set_option maxHeartbeats 1000000 in
theorem hasPrefix_any (s p : ByteArray) (w : World) :
    Calls Yba.prog 8 #[.string s, .string p] w fun e w' => e = .returned (.bool (Lib.hasPrefix s.data.toList p.data.toList)) ∧ w' = w := by
  rw [← Lib.hasPrefix_of_take, ← Lib.size_eq, ← Lib.size_eq]
  go_enter Yba.func8, Yba.ntmps8
  go_wp2
  · rename_i h
    go_ret
    refine ⟨?_, rfl⟩
    show Ending.returned (Value.bool ((s.extract 0 p.size).toList == p.toList)) = _
    rw [Lib.extract_toList, Lib.toList_data]
    simp [h]
  · rename_i h
    go_ret
    refine ⟨?_, rfl⟩
    show Ending.returned (Value.bool false) = _
    simp [h]

set_option maxHeartbeats 1000000 in
theorem word_any (a : Int) (raw : ByteArray) (w : World) (h0 : 0 ≤ a) (h1 : a ≤ 255) (hr : raw.size ≤ 1048576) :
    Calls Yba.prog 5 #[.int .u8 a, .string raw] w fun e w' => ∃ wd : ByteArray, wd.size ≤ 1048576 ∧ e = .returned (.string wd) ∧ w' = w := by
  rcases (show a % 5 = 0 ∨ a % 5 = 1 ∨ a % 5 = 2 ∨ a % 5 = 3 ∨ a % 5 = 4 by omega) with h | h | h | h | h
  all_goals
    go_enter Yba.func5, Yba.ntmps5
    go_wp2
    go_ret
    refine ⟨_, ?_, rfl, rfl⟩
  · decide
  · decide
  · decide
  · decide
  · exact hr

set_option maxHeartbeats 1000000 in
theorem lit_yes (g a : Nat) (text wd : ByteArray) (w : World) (ha : a ≤ text.size) (ht : text.size ≤ 4000000) (hw : wd.size ≤ 4000000)
    (g0 : w.cell? ⟨g, 0, none⟩ = some (.string text)) (g1 : w.cell? ⟨g, 1, none⟩ = some (.int .i64 a)) (f1 : w.frozen? ⟨g, 1, none⟩ = false)
    (hp : Lib.hasPrefix (text.extract a text.size).data.toList wd.data.toList = true) :
    Calls Yba.prog 6 #[.pointer (some ⟨g, 0, none⟩), .string wd] w fun e w' => e = .returned (.bool true) ∧ ∃ q, w' = (w.drewN q).setCell ⟨g, 1, none⟩ (.int .i64 ((a : Int) + wd.size)) := by
  have hpx := fun W => hasPrefix_any (text.extract a text.size) wd W
  rw [hp] at hpx
  have HPX : Hid (∀ W, Calls Yba.prog 8 #[.string (text.extract a text.size), .string wd] W fun e w' => e = .returned (.bool true) ∧ w' = W) := hpx
  clear hpx hp
  have ha' : (a : Int) ≤ (text.size : Int) := by omega
  go_enter Yba.func6, Yba.ntmps6
  go_wp2
  go_quiet ((go_at_call 8; exact Calls.quiet_of_same (HPX.out _)))
  go_wp2
  go_ret
  exact ⟨rfl, _, rfl⟩

set_option maxHeartbeats 1000000 in
theorem lit_no (g a : Nat) (text wd : ByteArray) (w : World) (ha : a ≤ text.size)
    (g0 : w.cell? ⟨g, 0, none⟩ = some (.string text)) (g1 : w.cell? ⟨g, 1, none⟩ = some (.int .i64 a))
    (hp : Lib.hasPrefix (text.extract a text.size).data.toList wd.data.toList = false) :
    Calls Yba.prog 6 #[.pointer (some ⟨g, 0, none⟩), .string wd] w fun e w' => e = .returned (.bool false) ∧ ∃ q, w' = w.drewN q := by
  have hpx := fun W => hasPrefix_any (text.extract a text.size) wd W
  rw [hp] at hpx
  have HPX : Hid (∀ W, Calls Yba.prog 8 #[.string (text.extract a text.size), .string wd] W fun e w' => e = .returned (.bool false) ∧ w' = W) := hpx
  clear hpx hp
  have ha' : (a : Int) ≤ (text.size : Int) := by omega
  go_enter Yba.func6, Yba.ntmps6
  go_wp2
  go_quiet ((go_at_call 8; exact Calls.quiet_of_same (HPX.out _)))
  go_wp2
  go_ret
  exact ⟨rfl, _, rfl⟩

set_option maxHeartbeats 1000000 in
theorem rest_any (g : Nat) (text : ByteArray) (w : World)
    (g0 : w.cell? ⟨g, 0, none⟩ = some (.string text)) (g2 : w.cell? ⟨g, 2, none⟩ = some (.slice none 0 0)) (g3 : w.cell? ⟨g, 3, none⟩ = some (.int .i64 7))
    (g4 : w.cell? ⟨g, 4, none⟩ = some (.int .i64 3)) (g5 : w.cell? ⟨g, 5, none⟩ = some (.int .i64 5)) (g6 : w.cell? ⟨g, 6, none⟩ = some (.bool false)) :
    Calls Yba.prog 7 #[.pointer (some ⟨g, 0, none⟩), .string text] w fun e w' => e = .returned (.bool true) ∧ w' = w := by
  have q25 : ∀ (w : World) (a : Option Addr) (n c n' c' : Nat), (binOp .eql 25 (.slice a n c) (.slice none n' c')).run Yba.prog w = .ok (.bool a.isNone) w := fun w a n c n' c' => Lib.run_eql_slice_nil w _ _ a n c n' c' Yba.underlying25
  go_enter Yba.func7, Yba.ntmps7
  go_wp2
  go_ret
  exact ⟨rfl, rfl⟩
end Go.Proofs.Ybulkbyws
