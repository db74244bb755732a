import Derived.Test.YbulkbyzyPut
namespace Go.Proofs.Ybulkbyzy
open Go.RowKit

/-- What follows the board: the hands, and the side to move. -/
def restOf (tm : Int) : List Value := List.replicate 16 (.int .i64 0) ++ [.int .i8 tm]
def bare : List (Int × Int) := List.replicate 81 (0, 0)

theorem zero33 (W : World) : (zeroValue 33).run Yba.prog W = .ok (.agg (enc bare ++ restOf 0).toArray) W := by kernel_rfl
theorem bare_size : (enc bare ++ restOf 0).toArray.size = 179 := by kernel_rfl
theorem bare_set : (enc bare ++ restOf 0).toArray.setIfInBounds 178 (.int .i8 0) = (enc bare ++ restOf 0).toArray := by kernel_rfl

def bk : List Int := [2, 3, 4, 5, 8, 5, 4, 3, 2]

/-- The board behind F rounds of Initial's loop; and at its end. -/
def ib : Nat → List (Int × Int)
  | 0 => bare
  | F + 1 => ((((ib F).set (0 * 9 + F) (bk.getD F 0, 1)).set (2 * 9 + F) (1, 1)).set (6 * 9 + F) (1, 0)).set (8 * 9 + F) (bk.getD F 0, 0)
def initBd : List (Int × Int) := ((((ib 9).set (1 * 9 + 7) (7, 1)).set (1 * 9 + 1) (6, 1)).set (7 * 9 + 7) (6, 0)).set (7 * 9 + 1) (7, 0)

theorem ib_length (F : Nat) : (ib F).length = 81 := by
  induction F with
  | zero => simp [ib, bare]
  | succ F ih => simp [ib, ih]

theorem bk_at (F : Nat) (hF : F < 9) : (bk.map (Value.int .i8)).toArray[F]? = some (.int .i8 (bk.getD F 0)) := by
  have : F < bk.length := hF
  simp [List.getD, List.getElem?_eq_getElem this]

set_option maxHeartbeats 2000000 in
set_option maxRecDepth 100000 in
theorem initial_any (w : World) :
    Calls Yba.prog 7 #[] w fun e w' => e = .returned (.pointer (some ⟨w.heap.size, 0, none⟩)) ∧ PosAt w' w.heap.size initBd (restOf 0) ∧ Below w.heap.size w w' := by
  obtain ⟨A, hA⟩ : ∃ A, (enc bare ++ restOf 0).toArray = A := ⟨_, rfl⟩
  have hz := zero33
  have hs := bare_size
  have hset := bare_set
  rw [hA] at hz hs hset
  have HA : Hid ((enc bare ++ restOf 0).toArray = A) := hA
  clear hA
  go_enter Yba.func7, Yba.ntmps7
  go_wp2
  obtain ⟨wa, hwa⟩ : ∃ wa, (w.alloc (Obj.cells A 33)).alloc (Obj.cells #[Value.int IntKind.i8 2, Value.int IntKind.i8 3, Value.int IntKind.i8 4, Value.int IntKind.i8 5, Value.int IntKind.i8 8, Value.int IntKind.i8 5, Value.int IntKind.i8 4, Value.int IntKind.i8 3, Value.int IntKind.i8 2] 44) = wa := ⟨_, rfl⟩
  obtain ⟨B, hB⟩ : ∃ B, w.heap.size = B := ⟨_, rfl⟩
  have A0 : PosAt wa B (ib 0) (restOf 0) := by
    unfold PosAt ib
    rw [← hwa, ← hB, heap_alloc2_old, ← HA.out]
  have A1 : wa.heap[B + 1]? = some (.cells (bk.map (Value.int .i8)).toArray 44 (0, 0)) := by
    rw [← hwa, ← hB, heap_alloc2_new]; rfl
  have A2 : Below B w wa := by rw [← hwa, ← hB]; exact ((Below.refl _ _).alloc (Nat.le_refl _) _).alloc (by simp) _
  rw [hwa, hB]
  have HB : Hid (w.heap.size = B) := hB
  clear hwa hB HA hz hs hset
  go_loopw [3] (fun t3 wr => ∃ F : Nat, F ≤ 9 ∧ t3 = .int .i64 ((F : Int) + 1) ∧ Hid (PosAt wr B (ib F) (restOf 0)) ∧ Hid (wr.heap[B + 1]? = some (.cells (bk.map (Value.int .i8)).toArray 44 (0, 0))) ∧ Below B w wr)
    (fun t3 _ => 10 - (intOf t3).toNat)
  case atStart => exact ⟨0, Nat.zero_le _, rfl, A0, A1, A2⟩
  case round =>
    clear A0 A1 A2
    obtain ⟨F, hF, rfl, HP, HBK, hbel⟩ := hrel
    by_cases hlt : F < 9
    · have hlti : (F : Int) < 9 := by omega
      have kb : wr.cell? ⟨B + 1, F, none⟩ = some (.int .i8 (bk.getD F 0)) := by rw [cell_of_row wr (B + 1) F _ 44 (0, 0) HBK.out]; exact bk_at F hlt
      have IBS : Hid (∀ k, bk.getD F 0 = k → ib (F + 1) = ((((ib F).set (0 * 9 + F) (k, 1)).set (2 * 9 + F) (1, 1)).set (6 * 9 + F) (1, 0)).set (8 * 9 + F) (k, 0)) := by intro k hk; rw [← hk]; rfl
      obtain ⟨k, hk⟩ : ∃ k, bk.getD F 0 = k := ⟨_, rfl⟩
      rw [hk] at kb
      have HK : Hid (bk.getD F 0 = k) := hk
      clear hk
      have hsz : B + 1 < wr.heap.size := (Array.getElem?_eq_some_iff.1 HBK.out).1
      go_wp2_with fail
      refine (put_bd B _ _ _ _ F 0 wr _ _ rfl (by omega) hlt (by omega) (ib_length F) HP.out).mono ?_
      rintro e w1 ⟨rfl, hp1, hg1⟩
      have HP1 : Hid (PosAt w1 B ((ib F).set (0 * 9 + F) (k, 1)) (restOf 0)) := hp1
      have HG1 : Hid (wr.grownBy w1 (some B)) := hg1
      clear hp1 hg1
      go_wp2_with fail
      refine (put_bd B _ _ _ _ F 2 w1 _ _ rfl (by omega) hlt (by omega) (by simp [ib_length]) HP1.out).mono ?_
      rintro e w2 ⟨rfl, hp2, hg2⟩
      have HP2 : Hid (PosAt w2 B _ (restOf 0)) := hp2
      have HG2 : Hid (w1.grownBy w2 (some B)) := hg2
      clear hp2 hg2
      go_wp2_with fail
      refine (put_bd B _ _ _ _ F 6 w2 _ _ rfl (by omega) hlt (by omega) (by simp [ib_length]) HP2.out).mono ?_
      rintro e w3 ⟨rfl, hp3, hg3⟩
      have HP3 : Hid (PosAt w3 B _ (restOf 0)) := hp3
      have HG3 : Hid (w2.grownBy w3 (some B)) := hg3
      clear hp3 hg3
      have s1 := HG1.out.size
      have s2 := HG2.out.size
      have s3 := HG3.out.size
      have hk3 : w3.heap[B + 1]? = wr.heap[B + 1]? := (HG3.out.block (B + 1) (by omega) (by simp)).trans ((HG2.out.block (B + 1) (by omega) (by simp)).trans (HG1.out.block (B + 1) (by omega) (by simp)))
      have kb3 : w3.cell? ⟨B + 1, F, none⟩ = some (.int .i8 k) := (World.cell?_of_block hk3).trans kb
      have HK3 : Hid (w3.heap[B + 1]? = wr.heap[B + 1]?) := hk3
      clear hk3
      go_wp2_with fail
      refine (put_bd B _ _ _ _ F 8 w3 _ _ rfl (by omega) hlt (by omega) (by simp [ib_length]) HP3.out).mono ?_
      rintro e w4 ⟨rfl, hp4, hg4⟩
      have HP4 : Hid (PosAt w4 B (ib (F + 1)) (restOf 0)) := by rw [IBS.out k HK.out]; exact hp4
      have HBK4 : Hid (w4.heap[B + 1]? = some (.cells (bk.map (Value.int .i8)).toArray 44 (0, 0))) := (hg4.block (B + 1) (by omega) (by simp)).trans (HK3.out.trans HBK.out)
      have hbel4 : Below B w w4 := (((hbel.grown HG1.out (by omega) (fun k hk => by cases hk; exact Nat.le_refl _)).grown HG2.out (by omega) (fun k hk => by cases hk; exact Nat.le_refl _)).grown HG3.out (by omega) (fun k hk => by cases hk; exact Nat.le_refl _)).grown hg4 (by omega) (fun k hk => by cases hk; exact Nat.le_refl _)
      clear hp4 hg4
      go_wp2
      go_roundw
      case rel => exact ⟨F + 1, by omega, by go_num, HP4, HBK4, hbel4⟩
      case measure => simp [intOf]; omega
    · obtain rfl : F = 9 := by omega
      have hsz : B + 1 < wr.heap.size := (Array.getElem?_eq_some_iff.1 HBK.out).1
      go_wp2_with fail
      refine (put_bd B _ _ _ _ 7 1 wr _ _ (by omega) (by omega) (by omega) (by omega) (ib_length 9) HP.out).mono ?_
      rintro e w1 ⟨rfl, hp1, hg1⟩
      have HP1 : Hid (PosAt w1 B _ (restOf 0)) := hp1
      have HG1 : Hid (wr.grownBy w1 (some B)) := hg1
      clear hp1 hg1
      go_wp2_with fail
      refine (put_bd B _ _ _ _ 1 1 w1 _ _ (by omega) (by omega) (by omega) (by omega) (by simp [ib_length]) HP1.out).mono ?_
      rintro e w2 ⟨rfl, hp2, hg2⟩
      have HP2 : Hid (PosAt w2 B _ (restOf 0)) := hp2
      have HG2 : Hid (w1.grownBy w2 (some B)) := hg2
      clear hp2 hg2
      go_wp2_with fail
      refine (put_bd B _ _ _ _ 7 7 w2 _ _ (by omega) (by omega) (by omega) (by omega) (by simp [ib_length]) HP2.out).mono ?_
      rintro e w3 ⟨rfl, hp3, hg3⟩
      have HP3 : Hid (PosAt w3 B _ (restOf 0)) := hp3
      have HG3 : Hid (w2.grownBy w3 (some B)) := hg3
      clear hp3 hg3
      go_wp2_with fail
      refine (put_bd B _ _ _ _ 1 7 w3 _ _ (by omega) (by omega) (by omega) (by omega) (by simp [ib_length]) HP3.out).mono ?_
      rintro e w4 ⟨rfl, hp4, hg4⟩
      have s1 := HG1.out.size
      have s2 := HG2.out.size
      have s3 := HG3.out.size
      have HP4 : Hid (PosAt w4 B initBd (restOf 0)) := hp4
      have hbel4 : Below B w w4 := (((hbel.grown HG1.out (by omega) (fun k hk => by cases hk; exact Nat.le_refl _)).grown HG2.out (by omega) (fun k hk => by cases hk; exact Nat.le_refl _)).grown HG3.out (by omega) (fun k hk => by cases hk; exact Nat.le_refl _)).grown hg4 (by omega) (fun k hk => by cases hk; exact Nat.le_refl _)
      clear hp4 hg4
      go_wp2
      go_ret
      have e := HB.out
      rw [e]
      exact ⟨rfl, HP4, hbel4⟩
end Go.Proofs.Ybulkbyzy
