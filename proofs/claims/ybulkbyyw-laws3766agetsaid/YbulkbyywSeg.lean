import Derived.Test.YbulkbyywAtomic
namespace Go.Proofs.Ybulkbyyw
open Go.RowKit

set_option maxHeartbeats 1000000 in
/-- pop of an empty segment. -/
theorem pop_none (s : Nat) (w : World) (h2 : w.cell? ⟨s, 2, none⟩ = some (.int .i64 0)) :
    Calls Yba.prog 10 #[.pointer (some ⟨s, 0, none⟩)] w fun e w' => e = .returned (.tuple #[.int .i64 0, .bool false]) ∧ w' = w := by
  go_enter Yba.func10, Yba.ntmps10
  go_wp2
  go_ret2
  exact ⟨rfl, rfl⟩

set_option maxHeartbeats 2000000 in
set_option maxRecDepth 100000 in
/-- pop of a segment that holds something. -/
theorem pop_some (s v c f g : Nat) (n x : Int) (w : World) (hf : f < c) (hc : c ≤ 8) (hn : 0 < n) (hn8 : n ≤ 8) (hg : (f + 1) % c = g) (hsv : s ≠ v)
    (h0 : w.cell? ⟨s, 0, none⟩ = some (.slice (some ⟨v, 0, none⟩) c c)) (h1 : w.cell? ⟨s, 1, none⟩ = some (.int .i64 (f : Int))) (h2 : w.cell? ⟨s, 2, none⟩ = some (.int .i64 n))
    (hx : w.cell? ⟨v, f, none⟩ = some (.int .i64 x)) (z1 : w.frozen? ⟨s, 1, none⟩ = false) (z2 : w.frozen? ⟨s, 2, none⟩ = false) (zv : w.frozen? ⟨v, f, none⟩ = false) :
    Calls Yba.prog 10 #[.pointer (some ⟨s, 0, none⟩)] w fun e w' => e = .returned (.tuple #[.int .i64 x, .bool true]) ∧ ∃ q, w' = (((w.setCell ⟨v, f, none⟩ (.int .i64 0)).setCell ⟨s, 1, none⟩ (.int .i64 (g : Int))).setCell ⟨s, 2, none⟩ (.int .i64 (n - 1))).drewN q := by
  have hn0 : (n == 0) = false := by simp; omega
  have hfi : (f : Int) < (c : Int) := by omega
  have e1 : ((f : Int) + 1) % (c : Int) = (g : Int) := by rw [← hg]; simp
  have e2 : ((f : Int) + 1).tmod (c : Int) = (g : Int) := by rw [Int.tmod_eq_emod_of_nonneg (by omega)]; exact e1
  have hvs : v ≠ s := fun e => hsv e.symm
  have hcp : (0 : Int) < (c : Int) := by omega
  have hcz : ((c : Int) == 0) = false := by simp; omega
  clear hg
  go_enter Yba.func10, Yba.ntmps10
  go_wp2
  go_quiet (fail)
  go_wp2
  go_region
  go_wp2
  go_region
  go_wp2
  go_ret2
  exact ⟨rfl, nq + 2, rfl⟩

set_option maxHeartbeats 2000000 in
set_option maxRecDepth 100000 in
/-- push into a segment that has room. -/
theorem push_some (s v c f h n : Nat) (x y : Int) (w : World) (hf : f < c) (hc : c ≤ 8) (hn : n < c) (hh : (f + n) % c = h) (hsv : s ≠ v)
    (h0 : w.cell? ⟨s, 0, none⟩ = some (.slice (some ⟨v, 0, none⟩) c c)) (h1 : w.cell? ⟨s, 1, none⟩ = some (.int .i64 (f : Int))) (h2 : w.cell? ⟨s, 2, none⟩ = some (.int .i64 (n : Int)))
    (hx : w.cell? ⟨v, h, none⟩ = some (.int .i64 y)) (z2 : w.frozen? ⟨s, 2, none⟩ = false) (zv : w.frozen? ⟨v, h, none⟩ = false) :
    Calls Yba.prog 13 #[.pointer (some ⟨s, 0, none⟩), .int .i64 x] w fun e w' => e = .returned (.bool true) ∧ ∃ q, w' = ((w.setCell ⟨v, h, none⟩ (.int .i64 x)).setCell ⟨s, 2, none⟩ (.int .i64 ((n : Int) + 1))).drewN q := by
  have hlt : h < c := by rw [← hh]; exact Nat.mod_lt _ (by omega)
  have hhi : (h : Int) < (c : Int) := by omega
  have e1 : ((f : Int) + (n : Int)) % (c : Int) = (h : Int) := by rw [← hh]; simp
  have e2 : ((f : Int) + (n : Int)).tmod (c : Int) = (h : Int) := by rw [Int.tmod_eq_emod_of_nonneg (by omega)]; exact e1
  have hvs : v ≠ s := fun e => hsv e.symm
  have hcp : (0 : Int) < (c : Int) := by omega
  have hcz : ((c : Int) == 0) = false := by simp; omega
  have hnc : ((n : Int) == (c : Int)) = false := by simp; omega
  clear hh
  go_enter Yba.func13, Yba.ntmps13
  go_wp2
  go_quiet (fail)
  go_wp2
  go_region
  go_wp2
  go_ret
  exact ⟨rfl, nq + 1, rfl⟩
end Go.Proofs.Ybulkbyyw
