import Derived.Test.YbulkbyzyInitial
namespace Go.Proofs.Ybulkbyzy
open Go.RowKit

theorem init0 : kst initBd 0 81 = (5, 9, 1) := by decide +kernel
theorem init1 : kst initBd 1 81 = (5, 1, 1) := by decide +kernel
theorem init_kings : ∀ p ∈ initBd, p.1 = 8 → p.2 = 0 ∨ p.2 = 1 := by decide +kernel
theorem init_length : initBd.length = 81 := by decide +kernel

theorem kst_none (bd : List (Int × Int)) (c : Int) (i : Nat) (h : ∀ j, bd.getD j (0, 0) ≠ (8, c)) : kst bd c i = (0, 0, 0) := by
  induction i with
  | zero => rfl
  | succ i ih => rw [kst, if_neg (h i), ih]

theorem init_other (c : Int) (h0 : c ≠ 0) (h1 : c ≠ 1) : kst initBd c 81 = (0, 0, 0) := by
  refine kst_none _ _ _ fun j e => ?_
  by_cases hj : j < initBd.length
  · have hm : initBd.getD j (0, 0) ∈ initBd := by
      rw [List.getD_eq_getElem?_getD, List.getElem?_eq_getElem hj]; exact List.getElem_mem hj
    have := init_kings _ hm (by rw [e])
    rw [e] at this
    rcases this with h | h
    · exact h0 h
    · exact h1 h
  · rw [List.getD_eq_getElem?_getD, List.getElem?_eq_none (by omega)] at e
    simp at e

theorem king_init (c : Int) (x y n : Int) (b : Nat) (w : World) (h : kst initBd c 81 = (x, y, n)) (hp : PosAt w b initBd (restOf 0)) :
    Calls Yba.prog 6 #[.pointer (some ⟨b, 0, none⟩), .int .i8 c] w fun e w' => e = .returned (.tuple #[.agg #[.int .i64 x, .int .i64 y], .int .i64 n]) ∧ Below w.heap.size w w' := by
  have hb : b < w.heap.size := (Array.getElem?_eq_some_iff.1 hp).1
  have := king_any b c initBd w init_length hb (fun j v hj => hp.at j v hj)
  rw [h] at this
  exact this

set_option maxHeartbeats 2000000 in
set_option maxRecDepth 100000 in
theorem law_initial (c : Int) (w : World) :
    Calls Yba.prog 4 #[.int .i8 c] w fun e w' => e = .returned (.bool true) ∧ Below w.heap.size w w' := by
  by_cases c0 : c = 0
  · subst c0
    go_enter Yba.func4, Yba.ntmps4
    go_wp2_with fail
    refine (initial_any w).mono ?_
    rintro e w1 ⟨rfl, hp1, hb1⟩
    have HP1 : Hid (PosAt w1 w.heap.size initBd (restOf 0)) := hp1
    clear hp1
    go_wp2_with fail
    refine (king_init 0 5 9 1 _ w1 init0 HP1.out).mono ?_
    rintro e w2 ⟨rfl, hb2⟩
    go_wp2
    go_ret
    exact ⟨rfl, (hb1.trans (hb2.mono hb1.size)).alloc (Nat.le_trans hb1.size hb2.size) _⟩
  · by_cases c1 : c = 1
    · subst c1
      go_enter Yba.func4, Yba.ntmps4
      go_wp2_with fail
      refine (initial_any w).mono ?_
      rintro e w1 ⟨rfl, hp1, hb1⟩
      have HP1 : Hid (PosAt w1 w.heap.size initBd (restOf 0)) := hp1
      clear hp1
      go_wp2_with fail
      refine (king_init 1 5 1 1 _ w1 init1 HP1.out).mono ?_
      rintro e w2 ⟨rfl, hb2⟩
      go_wp2
      go_ret
      exact ⟨rfl, (hb1.trans (hb2.mono hb1.size)).alloc (Nat.le_trans hb1.size hb2.size) _⟩
    · have d0 : (c == 0) = false := by simp [c0]
      have d1 : (c == 1) = false := by simp [c1]
      have HC : Hid (kst initBd c 81 = (0, 0, 0)) := init_other c c0 c1
      clear c0 c1
      go_enter Yba.func4, Yba.ntmps4
      go_wp2_with fail
      refine (initial_any w).mono ?_
      rintro e w1 ⟨rfl, hp1, hb1⟩
      have HP1 : Hid (PosAt w1 w.heap.size initBd (restOf 0)) := hp1
      clear hp1
      go_wp2_with fail
      refine (king_init c 0 0 0 _ w1 HC.out HP1.out).mono ?_
      rintro e w2 ⟨rfl, hb2⟩
      go_wp2
      go_ret
      exact ⟨rfl, (hb1.trans (hb2.mono hb1.size)).alloc (Nat.le_trans hb1.size hb2.size) _⟩
end Go.Proofs.Ybulkbyzy
