import Derived.Test.YbulkbyywRows
import Derived.WalkKit
import Derived.WalkSpells
import Derived.Deep.QuietTactic
import Derived.BigQuiet
import Derived.RegionTactic
import Derived.BigRegion
import Derived.Deep.RegionWith
import Derived.Deep.DeepCutAuto
import Derived.Laws.LoneSync
namespace Go.Proofs.Ybulkbyyw
open Go.RowKit

set_option maxHeartbeats 1000000 in
theorem load_any (b o : Nat) (n : Int) (w : World) (h : w.cell? ⟨b, o, none⟩ = some (.int .u64 n)) :
    Calls Yba.prog 8 #[.pointer (some ⟨b, o, none⟩)] w fun e w' => e = .returned (.int .u64 n) ∧ w' = w := by
  have hl := run_call_load (P := Yba.prog) Yba.func14 (by kernel_rfl) (by kernel_rfl) (by kernel_rfl) .u64 (by kernel_rfl) h
  go_enter Yba.func8, Yba.ntmps8
  go_wp2
  go_ret
  exact ⟨rfl, rfl⟩

set_option maxHeartbeats 1000000 in
theorem add_one (b o : Nat) (w : World) (h : w.cell? ⟨b, o, none⟩ = some (.int .u64 0)) (hf : w.frozen? ⟨b, o, none⟩ = false) :
    Calls Yba.prog 11 #[.pointer (some ⟨b, o, none⟩), .int .u64 1] w fun e w' => e = .returned (.int .u64 1) ∧ w' = w.setCell ⟨b, o, none⟩ (.int .u64 1) := by
  have hadd := run_call_add (P := Yba.prog) Yba.func15 (by kernel_rfl) (by kernel_rfl) (by kernel_rfl) .u64 (by kernel_rfl) (y := 1) (s := 1) h hf (by simp [go_sem]; rfl)
  go_enter Yba.func11, Yba.ntmps11
  go_wp2
  go_ret
  exact ⟨rfl, rfl⟩
end Go.Proofs.Ybulkbyyw
