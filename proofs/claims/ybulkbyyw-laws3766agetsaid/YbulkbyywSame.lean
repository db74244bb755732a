import Derived.Test.YbulkbyywSt
namespace Go.Proofs.Ybulkbyyw
open Go.RowKit

set_option maxHeartbeats 4000000 in
set_option maxRecDepth 100000 in
theorem same_any (H k c : Nat) (B : Nat → Value) (F N : Nat → Int) (X : Nat → Nat → Int) (w : World) (hst : St H k c B F N X F N X w) (hk : k ≤ 300) (hc : c ≤ 8) (hB : B 8 = .slice (some ⟨H + 1, 0, none⟩) k k) :
    Calls Yba.prog 9 #[.pointer (some ⟨H, 0, none⟩), .slice (some ⟨H + 2, 0, none⟩) k k, .slice (some ⟨H + 3, 0, none⟩) k k, .slice (some ⟨H + 4, 0, none⟩) k k] w fun e w' => e = .returned (.bool true) ∧ ∃ q, w' = w.drewN q := by
  have b8 := hst.buf 8 (by omega)
  rw [hB] at b8
  have ST : Hid (St H k c B F N X F N X w) := hst
  clear hst hB
  go_enter Yba.func9, Yba.ntmps9
  go_wp2
  go_loopw [9, 10, 11] (fun t9 _ _ wr => ∃ i q : Nat, i ≤ k ∧ t9 = .int .i64 (i : Int) ∧ wr = w.drewN q) (fun t9 _ _ _ => k - (intOf t9).toNat)
  case atStart => exact ⟨0, 0, Nat.zero_le _, rfl, rfl⟩
  case round =>
    obtain ⟨i, q, hi, rfl, rfl⟩ := hrel
    by_cases hlt : i < k
    · have hlti : (i : Int) < (k : Int) := by omega
      have g0 := ST.out.segs i hlt
      have g1 := ST.out.seg0 i hlt
      have g2 := ST.out.seg1 i hlt
      have g3 := ST.out.seg2 i hlt
      have g4 := ST.out.vr i hlt
      have g5 := ST.out.fr i hlt
      have g6 := ST.out.nr i hlt
      generalize F i = f at *
      generalize N i = n at *
      go_wp2
      go_quiet (fail)
      go_wp2
      go_loopw [8, 11] (fun _ t11 wx => ∃ j q : Nat, j ≤ c ∧ t11 = .int .i64 (j : Int) ∧ wx = w.drewN q) (fun _ t11 _ => c - (intOf t11).toNat)
      case atStart => exact ⟨0, q + nq, Nat.zero_le _, rfl, World.drewN_drewN _ _ _⟩
      case round =>
        obtain ⟨j, q, hj, rfl, rfl⟩ := hrel
        by_cases hltj : j < c
        · have hltji : (j : Int) < (c : Int) := by omega
          have v1 := ST.out.val i j hlt hltj
          have v2 := ST.out.mv i j hlt hltj
          generalize X i j = x at *
          go_wp2
          go_quiet (fail)
          go_wp2
          go_roundw
          case rel => exact ⟨j + 1, _, by omega, by go_num, rfl⟩
          case measure => simp [intOf]; omega
        · have hd2 : decide ((j : Int) < (c : Int)) = false := decide_eq_false (by omega)
          go_wp2
          go_roundw
          case rel => exact ⟨i + 1, _, by omega, by go_num, rfl⟩
          case measure => simp [intOf]; omega
    · have hd : decide ((i : Int) < (k : Int)) = false := decide_eq_false (by omega)
      go_wp2
      go_ret
      exact ⟨rfl, q, rfl⟩
end Go.Proofs.Ybulkbyyw
