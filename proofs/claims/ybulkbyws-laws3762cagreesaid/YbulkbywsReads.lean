import Derived.Test.YbulkbywsCallees
namespace Go.Proofs.Ybulkbyws
open Go.RowKit

theorem prefix_mid (h wd t : ByteArray) : Lib.hasPrefix ((h ++ wd ++ t).extract h.size (h ++ wd ++ t).size).data.toList wd.data.toList = true := by
  rw [Lib.extract_data, Lib.size_eq, Lib.size_eq]
  unfold Lib.hasPrefix
  rw [List.isPrefixOf_iff_prefix]
  refine ⟨t.data.toList, ?_⟩
  rw [List.take_of_length_le (by simp [ByteArray.data_append])]
  simp [ByteArray.data_append]

theorem grown_drewN {W w' : World} (h : Grown W w') (q : Nat) : Grown W (w'.drewN q) := h

set_option maxHeartbeats 2000000 in
set_option maxRecDepth 100000 in
theorem reads_walk (h t raw : ByteArray) (a : Int) (w : World) (h0 : 0 ≤ a) (h1 : a ≤ 255) (hh : h.size ≤ 1048576) (ht : t.size ≤ 1048576) (hr : raw.size ≤ 1048576) :
    Calls Yba.prog 4 #[.string h, .string t, .int .u8 a, .string raw] w fun e w' => e = .returned (.bool true) ∧ Grown w w' := by
  have d1 : decide ((1048576 : Int) < (h.size : Int)) = false := decide_eq_false (by omega)
  have d2 : decide ((1048576 : Int) < (t.size : Int)) = false := decide_eq_false (by omega)
  have d3 : decide ((1048576 : Int) < (raw.size : Int)) = false := decide_eq_false (by omega)
  go_enter Yba.func4, Yba.ntmps4
  go_wp2_with fail
  refine (word_any a raw _ h0 h1 hr).mono ?_
  rintro e w1 ⟨wd, hwd, rfl, rfl⟩
  have hp := prefix_mid h wd t
  have sa : (h ++ wd).size = h.size + wd.size := ByteArray.size_append
  have sb : (h ++ wd ++ t).size = h.size + wd.size + t.size := by rw [ByteArray.size_append, sa]
  have HP : Hid (Lib.hasPrefix ((h ++ wd ++ t).extract h.size (h ++ wd ++ t).size).data.toList wd.data.toList = true) := hp
  have HS : Hid ((h ++ wd ++ t).size = h.size + wd.size + t.size) := sb
  clear hp sb
  go_wp2_with fail
  generalize h ++ wd ++ t = text at *
  obtain ⟨wa, hwa⟩ : ∃ wa, w1.alloc (Obj.cells #[Value.string text, .int .i64 h.size, .slice none 0 0, .int .i64 7, .int .i64 3, .int .i64 5, .bool false] 27) = wa := ⟨_, rfl⟩
  have k0 : wa.cell? ⟨w1.heap.size, 0, none⟩ = some (.string text) := by rw [← hwa]; simp
  have k1 : wa.cell? ⟨w1.heap.size, 1, none⟩ = some (.int .i64 h.size) := by rw [← hwa]; simp
  have k2 : wa.cell? ⟨w1.heap.size, 2, none⟩ = some (.slice none 0 0) := by rw [← hwa]; simp
  have k3 : wa.cell? ⟨w1.heap.size, 3, none⟩ = some (.int .i64 7) := by rw [← hwa]; simp
  have k4 : wa.cell? ⟨w1.heap.size, 4, none⟩ = some (.int .i64 3) := by rw [← hwa]; simp
  have k5 : wa.cell? ⟨w1.heap.size, 5, none⟩ = some (.int .i64 5) := by rw [← hwa]; simp
  have k6 : wa.cell? ⟨w1.heap.size, 6, none⟩ = some (.bool false) := by rw [← hwa]; simp
  have kf : wa.frozen? ⟨w1.heap.size, 1, none⟩ = false := by rw [← hwa]; simp
  have gr : Grown w1 wa := by rw [← hwa]; exact (Grown.refl _).alloc _ _
  rw [hwa]
  clear hwa
  refine (lit_yes _ h.size text wd wa (by have := HS.out; omega) (by have := HS.out; omega) (by omega) k0 k1 kf HP.out).mono ?_
  rintro e w2 ⟨rfl, q, rfl⟩
  go_wp2_with fail
  refine (rest_any _ text _ ?_ ?_ ?_ ?_ ?_ ?_).mono ?_
  · exact (World.cell?_setCell_other _ _ _ _ (by simp)).trans k0
  · exact (World.cell?_setCell_other _ _ _ _ (by simp)).trans k2
  · exact (World.cell?_setCell_other _ _ _ _ (by simp)).trans k3
  · exact (World.cell?_setCell_other _ _ _ _ (by simp)).trans k4
  · exact (World.cell?_setCell_other _ _ _ _ (by simp)).trans k5
  · exact (World.cell?_setCell_other _ _ _ _ (by simp)).trans k6
  rintro e w3 ⟨rfl, rfl⟩
  go_wp2
  go_ret
  exact ⟨rfl, (grown_drewN gr q).setCell (Nat.le_refl _) _⟩

set_option maxHeartbeats 1000000 in
theorem reads_long (h t raw : ByteArray) (a : Int) (w : World) (sh : h.size ≤ maxLen) (st : t.size ≤ maxLen) (sr : raw.size ≤ maxLen)
    (hl : 1048576 < h.size ∨ 1048576 < t.size ∨ 1048576 < raw.size) :
    Calls Yba.prog 4 #[.string h, .string t, .int .u8 a, .string raw] w fun e w' => e = .returned (.bool true) ∧ Grown w w' := by
  unfold maxLen at sh st sr
  by_cases d1 : 1048576 < h.size
  · have e1 : decide ((1048576 : Int) < (h.size : Int)) = true := decide_eq_true (by omega)
    go_enter Yba.func4, Yba.ntmps4
    go_wp2
    go_ret
    exact ⟨rfl, Grown.refl _⟩
  · have e1 : decide ((1048576 : Int) < (h.size : Int)) = false := decide_eq_false (by omega)
    by_cases d2 : 1048576 < t.size
    · have e2 : decide ((1048576 : Int) < (t.size : Int)) = true := decide_eq_true (by omega)
      go_enter Yba.func4, Yba.ntmps4
      go_wp2
      go_ret
      exact ⟨rfl, Grown.refl _⟩
    · have e2 : decide ((1048576 : Int) < (t.size : Int)) = false := decide_eq_false (by omega)
      have e3 : decide ((1048576 : Int) < (raw.size : Int)) = true := decide_eq_true (by omega)
      go_enter Yba.func4, Yba.ntmps4
      go_wp2
      go_ret
      exact ⟨rfl, Grown.refl _⟩

theorem wf_u8 {x : Int} (h : (Lit.int .u8 x).wf = true) : 0 ≤ x ∧ x ≤ 255 := by
  have e1 : IntKind.u8.min = 0 := by decide
  have e2 : IntKind.u8.max = 255 := by decide
  simp only [Lit.wf, Bool.and_eq_true, decide_eq_true_eq, e1, e2] at h
  exact h
end Go.Proofs.Ybulkbyws
