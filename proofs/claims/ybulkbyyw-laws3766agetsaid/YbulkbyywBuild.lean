import Derived.Test.YbulkbyywGet
namespace Go.Proofs.Ybulkbyyw
open Go.RowKit

theorem Yba.info3 : (Yba.prog.info? 3).map (fun i => (i.zero, i.size, i.bytes)) = some (some (.int .i64 0), 1, 8) := by kernel_rfl
theorem Yba.info64 : (Yba.prog.info? 64).map (fun i => (i.zero, i.size, i.bytes)) = some (some (.pointer none), 1, 8) := by kernel_rfl
theorem Yba.info25 : (Yba.prog.info? 25).map (fun i => (i.zero, i.size, i.bytes)) = some (some (.slice none 0 0), 1, 24) := by kernel_rfl

theorem mk25 (n : Nat) (hn : n ≤ 1000) (W : World) : (Instr.makeSlice 25 (.int .i64 (n : Int)) (.int .i64 (n : Int))).run Yba.prog W = .ok (.slice (some ⟨W.heap.size, 0, none⟩) n n) (W.alloc (.cells (madeCells #[.int .i64 0] n) 3)) := by
  obtain ⟨i0, hi, hz0, hz1, hz2⟩ := info_parts Yba.info3
  have := run_make (P := Yba.prog) W 25 3 i0 (.int .i64 0) Yba.underlying25 hi hz0 .i64 .i64 n n (by omega) (Int.le_refl _) (by rw [hz2]; omega) (by omega)
  rw [this, Int.toNat_natCast, hz1, Nat.mul_one]; rfl
theorem mk40 (n : Nat) (hn : n ≤ 1000) (W : World) : (Instr.makeSlice 40 (.int .i64 (n : Int)) (.int .i64 (n : Int))).run Yba.prog W = .ok (.slice (some ⟨W.heap.size, 0, none⟩) n n) (W.alloc (.cells (madeCells #[.pointer none] n) 64)) := by
  obtain ⟨i0, hi, hz0, hz1, hz2⟩ := info_parts Yba.info64
  have := run_make (P := Yba.prog) W 40 64 i0 (.pointer none) Yba.underlying40 hi hz0 .i64 .i64 n n (by omega) (Int.le_refl _) (by rw [hz2]; omega) (by omega)
  rw [this, Int.toNat_natCast, hz1, Nat.mul_one]; rfl
theorem mk24 (n : Nat) (hn : n ≤ 1000) (W : World) : (Instr.makeSlice 24 (.int .i64 (n : Int)) (.int .i64 (n : Int))).run Yba.prog W = .ok (.slice (some ⟨W.heap.size, 0, none⟩) n n) (W.alloc (.cells (madeCells #[.slice none 0 0] n) 25)) := by
  obtain ⟨i0, hi, hz0, hz1, hz2⟩ := info_parts Yba.info25
  have := run_make (P := Yba.prog) W 24 25 i0 (.slice none 0 0) Yba.underlying24 hi hz0 .i64 .i64 n n (by omega) (Int.le_refl _) (by rw [hz2]; omega) (by omega)
  rw [this, Int.toNat_natCast, hz1, Nat.mul_one]; rfl

/-- The buffer's cells as the law makes it. -/
def Bf (H k c : Nat) : Nat → Value
  | 0 => .int .i64 (c : Int) | 1 => .int .i64 ((k : Int) + 1) | 2 => .int .i64 5 | 3 => .int .i64 10 | 4 => .nilFunc | 5 => .int .u64 0 | 6 => .int .i32 0 | 7 => .int .u32 0
  | 8 => .slice (some ⟨H + 1, 0, none⟩) k k | 9 => .int .i64 0 | 10 => .int .i64 0 | 11 => .int .i64 0 | 12 => .bool false | 13 => .pointer none | 14 => .pointer none | 15 => .int .i64 0
  | 16 => .pointer none | 17 => .pointer none | _ => .int .i64 0

/-- What the build holds behind t rounds. -/
structure PSt (H k c t : Nat) (F N : Nat → Int) (X : Nat → Nat → Int) (w0 w : World) : Prop where
  buf : ∀ o, o < 19 → w.cell? ⟨H, o, none⟩ = some (Bf H k c o)
  r1 : ∀ i, i < k → w.cell? ⟨H + 1, i, none⟩ = some (if i < t then .pointer (some ⟨H + 7 + 3 * i, 0, none⟩) else .pointer none)
  r2 : ∀ i, i < k → w.cell? ⟨H + 2, i, none⟩ = some (if i < t then .slice (some ⟨H + 6 + 3 * i, 0, none⟩) c c else .slice none 0 0)
  r3 : ∀ i, i < k → w.cell? ⟨H + 3, i, none⟩ = some (.int .i64 (if i < t then F i else 0))
  r4 : ∀ i, i < k → w.cell? ⟨H + 4, i, none⟩ = some (.int .i64 (if i < t then N i else 0))
  seg0 : ∀ i, i < t → w.cell? ⟨H + 7 + 3 * i, 0, none⟩ = some (.slice (some ⟨H + 5 + 3 * i, 0, none⟩) c c)
  seg1 : ∀ i, i < t → w.cell? ⟨H + 7 + 3 * i, 1, none⟩ = some (.int .i64 (F i))
  seg2 : ∀ i, i < t → w.cell? ⟨H + 7 + 3 * i, 2, none⟩ = some (.int .i64 (N i))
  val : ∀ i j, i < t → j < c → w.cell? ⟨H + 5 + 3 * i, j, none⟩ = some (.int .i64 (X i j))
  mv : ∀ i j, i < t → j < c → w.cell? ⟨H + 6 + 3 * i, j, none⟩ = some (.int .i64 (X i j))
  free : ∀ b o, H ≤ b → b < H + 5 + 3 * t → w.frozen? ⟨b, o, none⟩ = false
  size : w.heap.size = H + 5 + 3 * t
  bel : Below H w0 w

theorem PSt.done {H k c : Nat} {F N : Nat → Int} {X : Nat → Nat → Int} {w0 w : World} (h : PSt H k c k F N X w0 w) : St H k c (Bf H k c) F N X F N X w where
  buf := h.buf
  segs := fun i hi => by rw [h.r1 i hi, if_pos hi]
  seg0 := h.seg0
  seg1 := h.seg1
  seg2 := h.seg2
  val := h.val
  vr := fun i hi => by rw [h.r2 i hi, if_pos hi]
  fr := fun i hi => by rw [h.r3 i hi, if_pos hi]
  nr := fun i hi => by rw [h.r4 i hi, if_pos hi]
  mv := h.mv
  free := h.free
  size := Nat.le_of_eq h.size.symm

theorem made_at (z : Value) (n i : Nat) (hi : i < n) : (madeCells #[z] n)[i]? = some z := by
  have := congrArg (fun l : List Value => l[i]?) (toList_madeCells_one z n)
  simp only [Array.getElem?_toList, List.getElem?_replicate, hi, if_true] at this
  exact this

/-- The world ahead of the build's loop. -/
theorem PSt.start (H k c : Nat) (F N : Nat → Int) (X : Nat → Nat → Int) (w : World) (hH : w.heap.size = H) (O : Array Value) (hO : ∀ o, o < 19 → O[o]? = some (Bf H k c o)) :
    PSt H k c 0 F N X w (((((w.alloc (.cells O 45)).alloc (.cells (madeCells #[.pointer none] k) 64)).alloc (.cells (madeCells #[.slice none 0 0] k) 25)).alloc (.cells (madeCells #[.int .i64 0] k) 3)).alloc (.cells (madeCells #[.int .i64 0] k) 3)) := by
  subst hH
  have s1 : (w.alloc (.cells O 45)).heap.size = w.heap.size + 1 := by simp
  have s2 : ((w.alloc (.cells O 45)).alloc (.cells (madeCells #[.pointer none] k) 64)).heap.size = w.heap.size + 2 := by simp
  have s3 : (((w.alloc (.cells O 45)).alloc (.cells (madeCells #[.pointer none] k) 64)).alloc (.cells (madeCells #[.slice none 0 0] k) 25)).heap.size = w.heap.size + 3 := by simp
  have s4 : ((((w.alloc (.cells O 45)).alloc (.cells (madeCells #[.pointer none] k) 64)).alloc (.cells (madeCells #[.slice none 0 0] k) 25)).alloc (.cells (madeCells #[.int .i64 0] k) 3)).heap.size = w.heap.size + 4 := by simp
  have b0 : (((((w.alloc (.cells O 45)).alloc (.cells (madeCells #[.pointer none] k) 64)).alloc (.cells (madeCells #[.slice none 0 0] k) 25)).alloc (.cells (madeCells #[.int .i64 0] k) 3)).alloc (.cells (madeCells #[.int .i64 0] k) 3)).heap[w.heap.size]? = some (.cells O 45 (0, 0)) := by
    rw [Below.heap_alloc _ _ _ (by omega), Below.heap_alloc _ _ _ (by omega), Below.heap_alloc _ _ _ (by omega), Below.heap_alloc _ _ _ (by omega), heap_alloc_new]
  have b1 : (((((w.alloc (.cells O 45)).alloc (.cells (madeCells #[.pointer none] k) 64)).alloc (.cells (madeCells #[.slice none 0 0] k) 25)).alloc (.cells (madeCells #[.int .i64 0] k) 3)).alloc (.cells (madeCells #[.int .i64 0] k) 3)).heap[w.heap.size + 1]? = some (.cells (madeCells #[.pointer none] k) 64 (0, 0)) := by
    rw [Below.heap_alloc _ _ _ (by omega), Below.heap_alloc _ _ _ (by omega), Below.heap_alloc _ _ _ (by omega), ← s1, heap_alloc_new]
  have b2 : (((((w.alloc (.cells O 45)).alloc (.cells (madeCells #[.pointer none] k) 64)).alloc (.cells (madeCells #[.slice none 0 0] k) 25)).alloc (.cells (madeCells #[.int .i64 0] k) 3)).alloc (.cells (madeCells #[.int .i64 0] k) 3)).heap[w.heap.size + 2]? = some (.cells (madeCells #[.slice none 0 0] k) 25 (0, 0)) := by
    rw [Below.heap_alloc _ _ _ (by omega), Below.heap_alloc _ _ _ (by omega), ← s2, heap_alloc_new]
  have b3 : (((((w.alloc (.cells O 45)).alloc (.cells (madeCells #[.pointer none] k) 64)).alloc (.cells (madeCells #[.slice none 0 0] k) 25)).alloc (.cells (madeCells #[.int .i64 0] k) 3)).alloc (.cells (madeCells #[.int .i64 0] k) 3)).heap[w.heap.size + 3]? = some (.cells (madeCells #[.int .i64 0] k) 3 (0, 0)) := by
    rw [Below.heap_alloc _ _ _ (by omega), ← s3, heap_alloc_new]
  have b4 : (((((w.alloc (.cells O 45)).alloc (.cells (madeCells #[.pointer none] k) 64)).alloc (.cells (madeCells #[.slice none 0 0] k) 25)).alloc (.cells (madeCells #[.int .i64 0] k) 3)).alloc (.cells (madeCells #[.int .i64 0] k) 3)).heap[w.heap.size + 4]? = some (.cells (madeCells #[.int .i64 0] k) 3 (0, 0)) := by
    rw [← s4, heap_alloc_new]
  have bl := ((((((Below.refl w.heap.size w).alloc (Nat.le_refl _) (.cells O 45)).alloc (by omega) (.cells (madeCells #[.pointer none] k) 64)).alloc (by omega) (.cells (madeCells #[.slice none 0 0] k) 25)).alloc (by omega) (.cells (madeCells #[.int .i64 0] k) 3)).alloc (by omega) (.cells (madeCells #[.int .i64 0] k) 3))
  have s5 : (((((w.alloc (.cells O 45)).alloc (.cells (madeCells #[.pointer none] k) 64)).alloc (.cells (madeCells #[.slice none 0 0] k) 25)).alloc (.cells (madeCells #[.int .i64 0] k) 3)).alloc (.cells (madeCells #[.int .i64 0] k) 3)).heap.size = w.heap.size + 5 := by simp
  generalize (((((w.alloc (.cells O 45)).alloc (.cells (madeCells #[.pointer none] k) 64)).alloc (.cells (madeCells #[.slice none 0 0] k) 25)).alloc (.cells (madeCells #[.int .i64 0] k) 3)).alloc (.cells (madeCells #[.int .i64 0] k) 3)) = wz at *
  refine ⟨fun o ho => ?_, fun i hi => ?_, fun i hi => ?_, fun i hi => ?_, fun i hi => ?_, fun i hi => by omega, fun i hi => by omega, fun i hi => by omega, fun i j hi => by omega, fun i j hi => by omega, fun b o h1 h2 => ?_, s5, bl⟩
  · rw [cell_of_row _ _ _ _ _ _ b0]; exact hO o ho
  · rw [cell_of_row _ _ _ _ _ _ b1, if_neg (by omega)]; exact made_at _ _ _ hi
  · rw [cell_of_row _ _ _ _ _ _ b2, if_neg (by omega)]; exact made_at _ _ _ hi
  · rw [cell_of_row _ _ _ _ _ _ b3, if_neg (by omega)]; exact made_at _ _ _ hi
  · rw [cell_of_row _ _ _ _ _ _ b4, if_neg (by omega)]; exact made_at _ _ _ hi
  · rcases (show b = w.heap.size ∨ b = w.heap.size + 1 ∨ b = w.heap.size + 2 ∨ b = w.heap.size + 3 ∨ b = w.heap.size + 4 by omega) with rfl | rfl | rfl | rfl | rfl
    · exact frozen_of_row _ _ _ _ _ b0
    · exact frozen_of_row _ _ _ _ _ b1
    · exact frozen_of_row _ _ _ _ _ b2
    · exact frozen_of_row _ _ _ _ _ b3
    · exact frozen_of_row _ _ _ _ _ b4

/-- The sum of the counts. -/
def hsum (N : Nat → Int) : Nat → Int
  | 0 => 0
  | t + 1 => hsum N t + N t
end Go.Proofs.Ybulkbyyw
