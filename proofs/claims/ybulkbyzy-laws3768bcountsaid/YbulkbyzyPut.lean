import Derived.Test.YbulkbyzyKing
import Derived.RegionTactic
import Derived.BigRegion
namespace Go.Proofs.Ybulkbyzy
open Go.RowKit

set_option maxHeartbeats 2000000 in
set_option maxRecDepth 100000 in
theorem put_any (b : Nat) (fi ra k c : Int) (F R : Nat) (w : World) (v0 v1 : Value) (hf : fi = (F : Int) + 1) (hr : ra = (R : Int) + 1) (hF : F < 9) (hR : R < 9) (hb : b < w.heap.size)
    (c0 : w.cell? ⟨b, R * 18 + F * 2, none⟩ = some v0) (c1 : w.cell? ⟨b, R * 18 + F * 2 + 1, none⟩ = some v1) (f0 : w.frozen? ⟨b, R * 18 + F * 2, none⟩ = false) (f1 : w.frozen? ⟨b, R * 18 + F * 2 + 1, none⟩ = false) :
    Calls Yba.prog 8 #[.pointer (some ⟨b, 0, none⟩), .int .i64 fi, .int .i64 ra, .agg #[.int .i8 k, .int .i8 c]] w fun e w' =>
      e = .returned (.tuple #[]) ∧ w' = (((w.setCell ⟨b, R * 18 + F * 2, none⟩ (.int .i8 k)).setCell ⟨b, R * 18 + F * 2 + 1, none⟩ (.int .i8 c)).alloc (.cells #[.int .i8 k, .int .i8 c] 27)).drew := by
  subst hf; subst hr
  have h1 : (F : Int) < 9 := by omega
  have h2 : (R : Int) < 9 := by omega
  go_enter Yba.func8, Yba.ntmps8
  go_wp2
  go_region
  go_end0
  exact ⟨rfl, rfl⟩

/-- The position at block b: its board, and what follows. -/
def PosAt (w : World) (b : Nat) (bd : List (Int × Int)) (rest : List Value) : Prop := w.heap[b]? = some (.cells (enc bd ++ rest).toArray 33 (0, 0))

theorem enc_set (bd : List (Int × Int)) (i : Nat) (k c : Int) : ((enc bd).set (2 * i) (.int .i8 k)).set (2 * i + 1) (.int .i8 c) = enc (bd.set i (k, c)) := by
  induction bd generalizing i with
  | nil => simp [enc]
  | cons p t ih =>
    cases i with
    | zero => rfl
    | succ i =>
      show ((encP p ++ enc t).set (2 * (i + 1)) _).set (2 * (i + 1) + 1) _ = encP p ++ enc (t.set i (k, c))
      rw [← ih i, show 2 * (i + 1) = 2 * i + 1 + 1 from by omega]
      rfl

theorem PosAt.cell {w : World} {b : Nat} {bd : List (Int × Int)} {rest : List Value} (h : PosAt w b bd rest) (j : Nat) (hj : j < 2 * bd.length) : ∃ v, w.cell? ⟨b, j, none⟩ = some v := by
  rw [cell_of_row w b j _ 33 (0, 0) h]
  have : j < (enc bd ++ rest).toArray.size := by simp [enc_length]; omega
  exact ⟨_, Array.getElem?_eq_getElem this⟩

theorem PosAt.at {w : World} {b : Nat} {bd : List (Int × Int)} {rest : List Value} (h : PosAt w b bd rest) (j : Nat) (v : Value) (hj : (enc bd)[j]? = some v) : w.cell? ⟨b, j, none⟩ = some v := by
  rw [cell_of_row w b j _ 33 (0, 0) h]
  have := (List.getElem?_eq_some_iff.1 hj).1
  simp [List.getElem?_append_left this, hj]

theorem PosAt.set2 {w : World} {b : Nat} {bd : List (Int × Int)} {rest : List Value} (h : PosAt w b bd rest) (i : Nat) (k c : Int) (hi : i < bd.length) :
    PosAt ((w.setCell ⟨b, 2 * i, none⟩ (.int .i8 k)).setCell ⟨b, 2 * i + 1, none⟩ (.int .i8 c)) b (bd.set i (k, c)) rest := by
  have h1 := heap_setCell_same w b (2 * i) _ 33 (.int .i8 k) h
  have h2 := heap_setCell_same _ b (2 * i + 1) _ 33 (.int .i8 c) h1
  unfold PosAt
  rw [h2]
  congr 2
  apply Array.toList_inj.1
  have hl := enc_length bd
  rw [Array.toList_setIfInBounds, Array.toList_setIfInBounds]
  show ((enc bd ++ rest).set (2 * i) _).set (2 * i + 1) _ = enc (bd.set i (k, c)) ++ rest
  rw [← enc_set, List.set_append_left _ _ (by omega), List.set_append_left _ _ (by simp; omega)]

theorem put_bd (b : Nat) (fi ra k c : Int) (F R : Nat) (w : World) (bd : List (Int × Int)) (rest : List Value) (hf : fi = (F : Int) + 1) (hr : ra = (R : Int) + 1) (hF : F < 9) (hR : R < 9) (hl : bd.length = 81) (hp : PosAt w b bd rest) :
    Calls Yba.prog 8 #[.pointer (some ⟨b, 0, none⟩), .int .i64 fi, .int .i64 ra, .agg #[.int .i8 k, .int .i8 c]] w fun e w' =>
      e = .returned (.tuple #[]) ∧ PosAt w' b (bd.set (R * 9 + F) (k, c)) rest ∧ w.grownBy w' (some b) := by
  have hb : b < w.heap.size := (Array.getElem?_eq_some_iff.1 hp).1
  obtain ⟨v0, c0⟩ := hp.cell (R * 18 + F * 2) (by omega)
  obtain ⟨v1, c1⟩ := hp.cell (R * 18 + F * 2 + 1) (by omega)
  refine (put_any b fi ra k c F R w v0 v1 hf hr hF hR hb c0 c1 (frozen_of_row w b _ _ 33 hp) (frozen_of_row w b _ _ 33 hp)).mono ?_
  rintro e w' ⟨rfl, rfl⟩
  have hs := hp.set2 (R * 9 + F) k c (by omega)
  rw [show 2 * (R * 9 + F) = R * 18 + F * 2 from by omega] at hs
  have hb2 : b < ((w.setCell ⟨b, R * 18 + F * 2, none⟩ (.int .i8 k)).setCell ⟨b, R * 18 + F * 2 + 1, none⟩ (.int .i8 c)).heap.size := by simpa using hb
  refine ⟨rfl, ?_, rfl, rfl, rfl, by simp, fun i hi hne => ?_⟩
  · unfold PosAt
    rw [heap_drew, Below.heap_alloc _ _ _ hb2]; exact hs
  · have hne' : i ≠ b := fun e => hne (by rw [e])
    rw [heap_drew, Below.heap_alloc _ _ _ (by simpa using hi), heap_setCell_other _ _ _ _ hne', heap_setCell_other _ _ _ _ hne']
end Go.Proofs.Ybulkbyzy
