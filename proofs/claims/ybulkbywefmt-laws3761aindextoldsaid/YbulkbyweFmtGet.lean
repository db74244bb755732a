import Derived.Test.YbulkbyweFmtFr
import Derived.Deep.LoopGhost
import Derived.Test.YbulkbyweFmtCmp
namespace Go.Proofs.YbulkbyweFmt
open Go.Shelf Go.RowKit Go.Lib Go.Proofs

theorem Fr.trans' {X : Nat → Prop} {a b c : World} (h : Fr X a b) (k : Fr X b c) : Fr X a c := h.trans k (fun _ h => h) (fun _ _ h => h)

set_option maxHeartbeats 400000 in
theorem isNaN53 (h : Nat) (w : World) : Calls Ybaf.prog 53 #[.int .i32 h] w fun e w' => e = .returned (.bool false) ∧ w' = w := by
  go_enter Ybaf.func53, Ybaf.ntmps53
  go_wp2
  go_ret
  exact ⟨by simp, rfl⟩

set_option maxHeartbeats 400000 in
theorem compare43 (h : Nat) (w : World) : Calls Ybaf.prog 43 #[.int .i32 h, .int .i32 h] w fun e w' => e = .returned (.int .i64 0) ∧ w' = w := by
  have hcon := isNaN53 h w
  go_enter Ybaf.func43, Ybaf.ntmps43
  go_wp2_with (go_at_call 53; refine hcon.mono ?_; rintro e w' ⟨rfl, h⟩; subst h)
  go_ret
  exact ⟨rfl, rfl⟩

set_option maxHeartbeats 400000 in
theorem closure42 (h x : Nat) (w : World) : Calls Ybaf.prog 42 #[.agg #[.int .i32 h, .int .u64 x], .int .i32 h] w fun e w' => e = .returned (.int .i64 0) ∧ Fr (fun _ => False) w w' := by
  have hcon := fun w => compare43 h w
  go_enter Ybaf.func42, Ybaf.ntmps42
  go_wp2_with (go_at_call 43; refine (hcon _).mono ?_; rintro e w' ⟨rfl, h⟩; subst h)
  go_ret
  exact ⟨rfl, Fr.alloc w _⟩

theorem enters42 : ∀ args w, (callFunc 42 args).run Ybaf.prog w = .ok (.enter 42 args) w := enters_of Ybaf.func42 (by kernel_rfl) rfl

set_option maxHeartbeats 1000000 in
set_option maxRecDepth 100000 in
theorem bsearch41 (k cap h x : Nat) (w : World) (k0 : w.cell? ⟨k, 0, none⟩ = some (.int .i32 h)) (k1 : w.cell? ⟨k, 1, none⟩ = some (.int .u64 x)) :
    Calls Ybaf.prog 41 #[.slice (some ⟨k, 0, none⟩) 1 cap, .int .i32 h, .func (.func 42) #[] #[]] w fun e w' => e = .returned (.tuple #[.int .i64 0, .bool true]) ∧ Fr (fun _ => False) w w' := by
  have mixed := Ybaf.laysUv.mixed
  have eg := enters42
  have hcon := fun w => closure42 h x w
  go_enter Ybaf.func41, Ybaf.ntmps41
  go_wp2
  go_loopg [9, 10] 2 (fun kx s9 s10 wr => ∃ j : Nat, j ≤ 1 ∧ s9 = .int .i64 0 ∧ s10 = .int .i64 j ∧ j ≤ kx ∧ Aside (Fr (fun _ => False) w wr))
  case atStart => exact ⟨1, by omega, rfl, rfl, by omega, Fr.refl _ _⟩
  case round =>
    obtain ⟨j, hj, rfl, rfl, hkx, F1⟩ := hrel
    have g0 := F1.out.cell k0 (by simp)
    have g1 := F1.out.cell k1 (by simp)
    by_cases hlt : 0 < j
    · obtain rfl : j = 1 := by omega
      clear k0 k1
      go_wp2_with (go_at_fn 42; refine (hcon _).mono ?_; rintro e w' ⟨rfl, F2⟩)
      go_roundg 0
      case measure => omega
      case rel => exact ⟨0, by omega, rfl, by go_num, by omega, F1.out.trans' F2⟩
    · obtain rfl : j = 0 := by omega
      clear k0 k1
      go_wp2_with (go_at_fn 42; refine (hcon _).mono ?_; rintro e w' ⟨rfl, F2⟩)
      go_ret2
      exact ⟨rfl, F1.out.trans' F2⟩

set_option maxHeartbeats 400000 in
set_option maxRecDepth 100000 in
theorem search25 (k cap h x : Nat) (w : World) (k0 : w.cell? ⟨k, 0, none⟩ = some (.int .i32 h)) (k1 : w.cell? ⟨k, 1, none⟩ = some (.int .u64 x)) :
    Calls Ybaf.prog 25 #[.slice (some ⟨k, 0, none⟩) 1 cap, .int .i32 h] w fun e w' => e = .returned (.tuple #[.int .i64 0, .bool true]) ∧ Fr (fun _ => False) w w' := by
  have hcon := bsearch41 k cap h x w k0 k1
  go_enter Ybaf.func25, Ybaf.ntmps25
  go_wp2_with (go_at_call 41; refine hcon.mono ?_; rintro e w' ⟨rfl, F2⟩)
  go_ret2
  exact ⟨rfl, F2⟩

set_option maxHeartbeats 400000 in
set_option maxRecDepth 100000 in
theorem get13 (k cap h x : Nat) (w : World) (k0 : w.cell? ⟨k, 0, none⟩ = some (.int .i32 h)) (k1 : w.cell? ⟨k, 1, none⟩ = some (.int .u64 x)) :
    Calls Ybaf.prog 13 #[.slice (some ⟨k, 0, none⟩) 1 cap, .int .i32 h] w fun e w' => e = .returned (.int .u64 x) ∧ Fr (fun _ => False) w w' := by
  have hcon := search25 k cap h x w k0 k1
  go_enter Ybaf.func13, Ybaf.ntmps13
  go_wp2_with (go_at_call 25; refine hcon.mono ?_; rintro e w' ⟨rfl, F2⟩; have g1 := F2.cell k1 (by simp))
  go_ret
  exact ⟨rfl, F2⟩
end Go.Proofs.YbulkbyweFmt
