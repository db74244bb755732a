import Derived.Test.YbulkbyywBuild
namespace Go.Proofs.Ybulkbyyw
open Go.RowKit

/-- What the walk is told of the segments that came in. -/
structure Inp (w : World) (a0 : Option Addr) (k c0 b0 o0 : Nat) (sa : Nat → Option Addr) (sl sc bb oo : Nat → Nat) (fi ni : Nat → Int) (xi : Nat → Nat → Int) : Prop where
  lt : ∀ i, i < k → b0 < w.heap.size
  g0 : ∀ i, i < k → w.cell? ⟨b0, o0 + i * 3, none⟩ = some (.slice (sa i) (sl i) (sc i))
  g1 : ∀ i, i < k → w.cell? ⟨b0, o0 + i * 3 + 1, none⟩ = some (.int .u8 (fi i))
  g2 : ∀ i, i < k → w.cell? ⟨b0, o0 + i * 3 + 2, none⟩ = some (.int .u8 (ni i))
  f : ∀ i, i < k → 0 ≤ fi i ∧ fi i ≤ 255
  n : ∀ i, i < k → 0 ≤ ni i ∧ ni i ≤ 255
  l : ∀ i, i < k → sl i ≤ 9223372036854775807
  ix : ∀ i, i < k → ∀ W, (Instr.indexAt 22 (.slice a0 k c0) (.int .i64 (i : Int))).run Yba.prog W = .ok (.pointer (some ⟨b0, o0 + i * 3, none⟩)) W
  jlt : ∀ i j, i < k → j < sl i → bb i < w.heap.size
  jc : ∀ i j, i < k → j < sl i → w.cell? ⟨bb i, oo i + j, none⟩ = some (.int .i64 (xi i j))
  jx : ∀ i j, i < k → j < sl i → ∀ W, (Instr.indexAt 25 (.slice (sa i) (sl i) (sc i)) (.int .i64 (j : Int))).run Yba.prog W = .ok (.pointer (some ⟨bb i, oo i + j, none⟩)) W

/-- What the inner loop holds. -/
structure IL (V c j : Nat) (x : Nat → Int) (wo wx : World) : Prop where
  v : ∀ i, i < c → wx.cell? ⟨V, i, none⟩ = some (.int .i64 (if i < j then x i else 0))
  m : ∀ i, i < c → wx.cell? ⟨V + 1, i, none⟩ = some (.int .i64 (if i < j then x i else 0))
  fv : ∀ o, wx.frozen? ⟨V, o, none⟩ = false
  fm : ∀ o, wx.frozen? ⟨V + 1, o, none⟩ = false
  size : wx.heap.size = V + 2
  bel : Below V wo wx

theorem IL.start (V c : Nat) (x : Nat → Int) (wo : World) (hV : wo.heap.size = V) : IL V c 0 x wo ((wo.alloc (.cells (madeCells #[.int .i64 0] c) 3)).alloc (.cells (madeCells #[.int .i64 0] c) 3)) := by
  subst hV
  refine ⟨fun i hi => ?_, fun i hi => ?_, fun o => ?_, fun o => ?_, by simp, ((Below.refl _ _).alloc (Nat.le_refl _) _).alloc (by simp) _⟩
  · rw [cell_of_row _ _ _ _ _ _ (heap_alloc2_old _ _ _), if_neg (by omega)]; exact made_at _ _ _ hi
  · rw [cell_of_row _ _ _ _ _ _ (heap_alloc2_new _ _ _), if_neg (by omega)]; exact made_at _ _ _ hi
  · exact frozen_of_row _ _ _ _ _ (heap_alloc2_old _ _ _)
  · exact frozen_of_row _ _ _ _ _ (heap_alloc2_new _ _ _)

theorem IL.step {V c j : Nat} {x : Nat → Int} {wo wx : World} (h : IL V c j x wo wx) (hj : j < c) (y : Int) (hy : x j = y) :
    IL V c (j + 1) x wo ((wx.setCell ⟨V, j, none⟩ (.int .i64 y)).setCell ⟨V + 1, j, none⟩ (.int .i64 y)) := by
  subst hy
  refine ⟨fun i hi => ?_, fun i hi => ?_, fun o => by simp only [World.frozen?_setCell]; exact h.fv o, fun o => by simp only [World.frozen?_setCell]; exact h.fm o, by simpa using h.size, (h.bel.setCell (Nat.le_refl _) _).setCell (by show V ≤ V + 1; omega) _⟩
  · rw [cell_ne (by omega)]
    by_cases e : i = j
    · subst e; rw [if_pos (by omega)]; exact World.cell?_setCell_same _ _ _ (h.v i hi)
    · rw [cell_ne (by omega), h.v i hi]
      by_cases h1 : i < j
      · rw [if_pos h1, if_pos (by omega)]
      · rw [if_neg h1, if_neg (by omega)]
  · by_cases e : i = j
    · subst e; rw [if_pos (by omega)]; exact World.cell?_setCell_same _ _ _ ((cell_ne (by omega)).trans (h.m i hi))
    · rw [cell_ne (by omega), cell_ne (by omega), h.m i hi]
      by_cases h1 : i < j
      · rw [if_pos h1, if_pos (by omega)]
      · rw [if_neg h1, if_neg (by omega)]

theorem alloc_cell {w : World} {O : Obj} {b o : Nat} (h : b < w.heap.size) : (w.alloc O).cell? ⟨b, o, none⟩ = w.cell? ⟨b, o, none⟩ := World.cell?_alloc_lt _ _ _ h

theorem PSt.step {H k c t V : Nat} {F N : Nat → Int} {X : Nat → Nat → Int} {w0 wo wx : World} {fv nv : Int} (h : PSt H k c t F N X w0 wo) (hi : IL V c c (X t) wo wx) (hV : V = H + 5 + 3 * t) (ht : t < k) (hf : F t = fv) (hn : N t = nv) :
    PSt H k c (t + 1) F N X w0 (((((wx.setCell ⟨H + 1, t, none⟩ (.pointer (some ⟨V + 2, 0, none⟩))).setCell ⟨H + 2, t, none⟩ (.slice (some ⟨V + 1, 0, none⟩) c c)).setCell ⟨H + 3, t, none⟩ (.int .i64 fv)).setCell ⟨H + 4, t, none⟩ (.int .i64 nv)).alloc (.cells #[.slice (some ⟨V, 0, none⟩) c c, .int .i64 fv, .int .i64 nv] 66)) := by
  have hsz := hi.size
  have g1 := (bcell (b := H + 1) (o := t) hi.bel (by omega)).trans (h.r1 t ht)
  have g2 := (bcell (b := H + 2) (o := t) hi.bel (by omega)).trans (h.r2 t ht)
  have g3 := (bcell (b := H + 3) (o := t) hi.bel (by omega)).trans (h.r3 t ht)
  have g4 := (bcell (b := H + 4) (o := t) hi.bel (by omega)).trans (h.r4 t ht)
  have hsy : ((((wx.setCell ⟨H + 1, t, none⟩ (.pointer (some ⟨V + 2, 0, none⟩))).setCell ⟨H + 2, t, none⟩ (.slice (some ⟨V + 1, 0, none⟩) c c)).setCell ⟨H + 3, t, none⟩ (.int .i64 fv)).setCell ⟨H + 4, t, none⟩ (.int .i64 nv)).heap.size = V + 2 := by simpa using hsz
  have y0 : ∀ b o, (b ≠ H + 1 ∨ o ≠ t) → (b ≠ H + 2 ∨ o ≠ t) → (b ≠ H + 3 ∨ o ≠ t) → (b ≠ H + 4 ∨ o ≠ t) → ((((wx.setCell ⟨H + 1, t, none⟩ (.pointer (some ⟨V + 2, 0, none⟩))).setCell ⟨H + 2, t, none⟩ (.slice (some ⟨V + 1, 0, none⟩) c c)).setCell ⟨H + 3, t, none⟩ (.int .i64 fv)).setCell ⟨H + 4, t, none⟩ (.int .i64 nv)).cell? ⟨b, o, none⟩ = wx.cell? ⟨b, o, none⟩ := by
    intro b o h1 h2 h3 h4
    rw [cell_ne (by omega), cell_ne (by omega), cell_ne (by omega), cell_ne (by omega)]
  have y1 : ((((wx.setCell ⟨H + 1, t, none⟩ (.pointer (some ⟨V + 2, 0, none⟩))).setCell ⟨H + 2, t, none⟩ (.slice (some ⟨V + 1, 0, none⟩) c c)).setCell ⟨H + 3, t, none⟩ (.int .i64 fv)).setCell ⟨H + 4, t, none⟩ (.int .i64 nv)).cell? ⟨H + 1, t, none⟩ = some (.pointer (some ⟨V + 2, 0, none⟩)) := by
    rw [cell_ne (by omega), cell_ne (by omega), cell_ne (by omega)]; exact World.cell?_setCell_same _ _ _ g1
  have y2 : ((((wx.setCell ⟨H + 1, t, none⟩ (.pointer (some ⟨V + 2, 0, none⟩))).setCell ⟨H + 2, t, none⟩ (.slice (some ⟨V + 1, 0, none⟩) c c)).setCell ⟨H + 3, t, none⟩ (.int .i64 fv)).setCell ⟨H + 4, t, none⟩ (.int .i64 nv)).cell? ⟨H + 2, t, none⟩ = some (.slice (some ⟨V + 1, 0, none⟩) c c) := by
    rw [cell_ne (by omega), cell_ne (by omega)]; exact World.cell?_setCell_same _ _ _ ((cell_ne (by omega)).trans g2)
  have y3 : ((((wx.setCell ⟨H + 1, t, none⟩ (.pointer (some ⟨V + 2, 0, none⟩))).setCell ⟨H + 2, t, none⟩ (.slice (some ⟨V + 1, 0, none⟩) c c)).setCell ⟨H + 3, t, none⟩ (.int .i64 fv)).setCell ⟨H + 4, t, none⟩ (.int .i64 nv)).cell? ⟨H + 3, t, none⟩ = some (.int .i64 fv) := by
    rw [cell_ne (by omega)]; exact World.cell?_setCell_same _ _ _ ((cell_ne (by omega)).trans ((cell_ne (by omega)).trans g3))
  have y4 : ((((wx.setCell ⟨H + 1, t, none⟩ (.pointer (some ⟨V + 2, 0, none⟩))).setCell ⟨H + 2, t, none⟩ (.slice (some ⟨V + 1, 0, none⟩) c c)).setCell ⟨H + 3, t, none⟩ (.int .i64 fv)).setCell ⟨H + 4, t, none⟩ (.int .i64 nv)).cell? ⟨H + 4, t, none⟩ = some (.int .i64 nv) :=
    World.cell?_setCell_same _ _ _ ((cell_ne (by omega)).trans ((cell_ne (by omega)).trans ((cell_ne (by omega)).trans g4)))
  have yf : ∀ a, ((((wx.setCell ⟨H + 1, t, none⟩ (.pointer (some ⟨V + 2, 0, none⟩))).setCell ⟨H + 2, t, none⟩ (.slice (some ⟨V + 1, 0, none⟩) c c)).setCell ⟨H + 3, t, none⟩ (.int .i64 fv)).setCell ⟨H + 4, t, none⟩ (.int .i64 nv)).frozen? a = wx.frozen? a := fun a => by simp only [World.frozen?_setCell]
  have yb : Below H w0 ((((wx.setCell ⟨H + 1, t, none⟩ (.pointer (some ⟨V + 2, 0, none⟩))).setCell ⟨H + 2, t, none⟩ (.slice (some ⟨V + 1, 0, none⟩) c c)).setCell ⟨H + 3, t, none⟩ (.int .i64 fv)).setCell ⟨H + 4, t, none⟩ (.int .i64 nv)) := ((((h.bel.trans (hi.bel.mono (by omega))).setCell (by show H ≤ H + 1; omega) _).setCell (by show H ≤ H + 2; omega) _).setCell (by show H ≤ H + 3; omega) _).setCell (by show H ≤ H + 4; omega) _
  generalize ((((wx.setCell ⟨H + 1, t, none⟩ (.pointer (some ⟨V + 2, 0, none⟩))).setCell ⟨H + 2, t, none⟩ (.slice (some ⟨V + 1, 0, none⟩) c c)).setCell ⟨H + 3, t, none⟩ (.int .i64 fv)).setCell ⟨H + 4, t, none⟩ (.int .i64 nv)) = wy at *
  have hnew : (wy.alloc (.cells #[.slice (some ⟨V, 0, none⟩) c c, .int .i64 fv, .int .i64 nv] 66)).heap[V + 2]? = some (.cells #[.slice (some ⟨V, 0, none⟩) c c, .int .i64 fv, .int .i64 nv] 66 (0, 0)) := by
    rw [← hsy]; exact heap_alloc_new _ _
  have zc : ∀ b o, b < V + 2 → (wy.alloc (.cells #[.slice (some ⟨V, 0, none⟩) c c, .int .i64 fv, .int .i64 nv] 66)).cell? ⟨b, o, none⟩ = wy.cell? ⟨b, o, none⟩ := fun b o hb => alloc_cell (by omega)
  have zf : ∀ b o, b < V + 2 → (wy.alloc (.cells #[.slice (some ⟨V, 0, none⟩) c c, .int .i64 fv, .int .i64 nv] 66)).frozen? ⟨b, o, none⟩ = wy.frozen? ⟨b, o, none⟩ := fun b o hb => World.frozen?_of_block (Below.heap_alloc _ _ _ (by show b < _; omega))
  have zb : Below H w0 (wy.alloc (.cells #[.slice (some ⟨V, 0, none⟩) c c, .int .i64 fv, .int .i64 nv] 66)) := yb.alloc (by omega) _
  have zs : (wy.alloc (.cells #[.slice (some ⟨V, 0, none⟩) c c, .int .i64 fv, .int .i64 nv] 66)).heap.size = V + 3 := by simp [hsy]
  generalize wy.alloc (.cells #[.slice (some ⟨V, 0, none⟩) c c, .int .i64 fv, .int .i64 nv] 66) = wz at *
  have old : ∀ b o, b < V → (b ≠ H + 1 ∨ o ≠ t) → (b ≠ H + 2 ∨ o ≠ t) → (b ≠ H + 3 ∨ o ≠ t) → (b ≠ H + 4 ∨ o ≠ t) → wz.cell? ⟨b, o, none⟩ = wo.cell? ⟨b, o, none⟩ := by
    intro b o hb h1 h2 h3 h4
    rw [zc b o (by omega), y0 b o h1 h2 h3 h4, bcell hi.bel hb]
  refine ⟨fun o ho => ?_, fun i hik => ?_, fun i hik => ?_, fun i hik => ?_, fun i hik => ?_, fun i hit => ?_, fun i hit => ?_, fun i hit => ?_, fun i j hit hj => ?_, fun i j hit hj => ?_, fun b o h1 h2 => ?_, ?_, zb⟩
  · rw [old H o (by omega) (by omega) (by omega) (by omega) (by omega)]; exact h.buf o ho
  · by_cases e : i = t
    · subst e
      rw [if_pos (by omega), zc _ _ (by omega), y1, show V + 2 = H + 7 + 3 * i from by omega]
    · rw [old (H + 1) i (by omega) (by omega) (by omega) (by omega) (by omega), h.r1 i hik]
      by_cases h1 : i < t
      · rw [if_pos h1, if_pos (by omega)]
      · rw [if_neg h1, if_neg (by omega)]
  · by_cases e : i = t
    · subst e
      rw [if_pos (by omega), zc _ _ (by omega), y2, show V + 1 = H + 6 + 3 * i from by omega]
    · rw [old (H + 2) i (by omega) (by omega) (by omega) (by omega) (by omega), h.r2 i hik]
      by_cases h1 : i < t
      · rw [if_pos h1, if_pos (by omega)]
      · rw [if_neg h1, if_neg (by omega)]
  · by_cases e : i = t
    · subst e
      rw [if_pos (by omega), zc _ _ (by omega), y3, hf]
    · rw [old (H + 3) i (by omega) (by omega) (by omega) (by omega) (by omega), h.r3 i hik]
      by_cases h1 : i < t
      · rw [if_pos h1, if_pos (by omega)]
      · rw [if_neg h1, if_neg (by omega)]
  · by_cases e : i = t
    · subst e
      rw [if_pos (by omega), zc _ _ (by omega), y4, hn]
    · rw [old (H + 4) i (by omega) (by omega) (by omega) (by omega) (by omega), h.r4 i hik]
      by_cases h1 : i < t
      · rw [if_pos h1, if_pos (by omega)]
      · rw [if_neg h1, if_neg (by omega)]
  · by_cases e : i = t
    · subst e
      rw [show H + 7 + 3 * i = V + 2 from by omega, cell_of_row _ _ _ _ _ _ hnew, show H + 5 + 3 * i = V from by omega]; rfl
    · rw [old _ _ (by omega) (by omega) (by omega) (by omega) (by omega)]; exact h.seg0 i (by omega)
  · by_cases e : i = t
    · subst e
      rw [show H + 7 + 3 * i = V + 2 from by omega, cell_of_row _ _ _ _ _ _ hnew, hf]; rfl
    · rw [old _ _ (by omega) (by omega) (by omega) (by omega) (by omega)]; exact h.seg1 i (by omega)
  · by_cases e : i = t
    · subst e
      rw [show H + 7 + 3 * i = V + 2 from by omega, cell_of_row _ _ _ _ _ _ hnew, hn]; rfl
    · rw [old _ _ (by omega) (by omega) (by omega) (by omega) (by omega)]; exact h.seg2 i (by omega)
  · by_cases e : i = t
    · subst e
      rw [show H + 5 + 3 * i = V from by omega, zc _ _ (by omega), y0 _ _ (by omega) (by omega) (by omega) (by omega), hi.v j hj, if_pos hj]
    · rw [old _ _ (by omega) (by omega) (by omega) (by omega) (by omega)]; exact h.val i j (by omega) hj
  · by_cases e : i = t
    · subst e
      rw [show H + 6 + 3 * i = V + 1 from by omega, zc _ _ (by omega), y0 _ _ (by omega) (by omega) (by omega) (by omega), hi.m j hj, if_pos hj]
    · rw [old _ _ (by omega) (by omega) (by omega) (by omega) (by omega)]; exact h.mv i j (by omega) hj
  · by_cases e : b = V + 2
    · subst e; exact frozen_of_row _ _ _ _ _ hnew
    · rw [zf b o (by omega), yf]
      by_cases e1 : b = V
      · rw [e1]; exact hi.fv o
      · by_cases e2 : b = V + 1
        · rw [e2]; exact hi.fm o
        · rw [hi.bel.frozen (p := ⟨b, o, none⟩) (by show b < V; omega)]; exact h.free b o h1 (by omega)
  · rw [zs]; omega

theorem hsum_bd (N : Nat → Int) (k : Nat) (h : ∀ i, i < k → 0 ≤ N i ∧ N i ≤ 8) (t : Nat) (ht : t ≤ k) : 0 ≤ hsum N t ∧ hsum N t ≤ 8 * t := by
  induction t with
  | zero => exact ⟨Int.le_refl _, Int.le_refl _⟩
  | succ t ih => have := ih (by omega); have := h t (by omega); show 0 ≤ hsum N t + N t ∧ hsum N t + N t ≤ 8 * ((t + 1 : Nat) : Int); omega

set_option maxHeartbeats 4000000 in
set_option maxRecDepth 100000 in
theorem build_any (a0 : Option Addr) (k c c0 b0 o0 H : Nat) (sa : Nat → Option Addr) (sl sc bb oo : Nat → Nat) (fi ni : Nat → Int) (xi : Nat → Nat → Int) (F N : Nat → Int) (X : Nat → Nat → Int) (w : World) (hk : k ≤ 300) (hc : c ≤ 8) (hc1 : 1 ≤ c) (hH : w.heap.size = H)
    (hin : Inp w a0 k c0 b0 o0 sa sl sc bb oo fi ni xi) (hF : ∀ i, i < k → F i = fi i % (c : Int)) (hN : ∀ i, i < k → N i = ni i % ((c : Int) + 1)) (hX : ∀ i j, i < k → j < c → X i j = if j < sl i then xi i j else (i : Int) * 100 + (j : Int) + 1) :
    Calls Yba.prog 5 #[.slice a0 k c0, .int .i64 (c : Int)] w fun e w' =>
      e = .returned (.tuple #[.pointer (some ⟨H, 0, none⟩), .slice (some ⟨H + 2, 0, none⟩) k k, .slice (some ⟨H + 3, 0, none⟩) k k, .slice (some ⟨H + 4, 0, none⟩) k k, .int .i64 (hsum N k)]) ∧
      St H k c (Bf H k c) F N X F N X w' ∧ Below H w w' := by
  have m1 := mk25 k (by omega)
  have m2 := mk25 c (by omega)
  have m3 := mk40 k (by omega)
  have m4 := mk24 k (by omega)
  have IN : Hid (Inp w a0 k c0 b0 o0 sa sl sc bb oo fi ni xi) := hin
  have HF : Hid (∀ i, i < k → F i = fi i % (c : Int)) := hF
  have HN : Hid (∀ i, i < k → N i = ni i % ((c : Int) + 1)) := hN
  have HX : Hid (∀ i j, i < k → j < c → X i j = if j < sl i then xi i j else (i : Int) * 100 + (j : Int) + 1) := hX
  have PS := PSt.start H k c F N X w hH #[Value.int IntKind.i64 ↑c, Value.int IntKind.i64 (↑k + 1), Value.int IntKind.i64 5, Value.int IntKind.i64 10, Value.nilFunc, Value.int IntKind.u64 0, Value.int IntKind.i32 0, Value.int IntKind.u32 0, Value.slice (some { block := H + 1, off := 0 }) k k, Value.int IntKind.i64 0, Value.int IntKind.i64 0, Value.int IntKind.i64 0, Value.bool false, Value.pointer none, Value.pointer none, Value.int IntKind.i64 0, Value.pointer none, Value.pointer none, Value.int IntKind.i64 0] (by
    intro o ho
    rcases (show o = 0 ∨ o = 1 ∨ o = 2 ∨ o = 3 ∨ o = 4 ∨ o = 5 ∨ o = 6 ∨ o = 7 ∨ o = 8 ∨ o = 9 ∨ o = 10 ∨ o = 11 ∨ o = 12 ∨ o = 13 ∨ o = 14 ∨ o = 15 ∨ o = 16 ∨ o = 17 ∨ o = 18 by omega) with rfl | rfl | rfl | rfl | rfl | rfl | rfl | rfl | rfl | rfl | rfl | rfl | rfl | rfl | rfl | rfl | rfl | rfl | rfl <;> rfl)
  have HPS : Hid _ := PS
  have HHH : Hid (w.heap.size = H) := hH
  clear PS hin hF hN hX
  go_enter Yba.func5, Yba.ntmps5
  go_wp2
  rw [show H + 1 + 1 + 1 + 1 = H + 4 from rfl, show H + 1 + 1 + 1 = H + 3 from rfl, show H + 1 + 1 = H + 2 from rfl]
  obtain ⟨wa, hwa⟩ : ∃ wa, (((((w.alloc (.cells #[Value.int IntKind.i64 ↑c, Value.int IntKind.i64 (↑k + 1), Value.int IntKind.i64 5, Value.int IntKind.i64 10, Value.nilFunc, Value.int IntKind.u64 0, Value.int IntKind.i32 0, Value.int IntKind.u32 0, Value.slice (some { block := H + 1, off := 0 }) k k, Value.int IntKind.i64 0, Value.int IntKind.i64 0, Value.int IntKind.i64 0, Value.bool false, Value.pointer none, Value.pointer none, Value.int IntKind.i64 0, Value.pointer none, Value.pointer none, Value.int IntKind.i64 0] 45)).alloc (.cells (madeCells #[.pointer none] k) 64)).alloc (.cells (madeCells #[.slice none 0 0] k) 25)).alloc (.cells (madeCells #[.int .i64 0] k) 3)).alloc (.cells (madeCells #[.int .i64 0] k) 3)) = wa := ⟨_, rfl⟩
  have HP0 : Hid (PSt H k c 0 F N X w wa) := by rw [← hwa]; exact HPS.out
  rw [hwa]
  clear hwa HPS m1 m3 m4 hH
  have NB : Hid (∀ i, i < k → 0 ≤ N i ∧ N i ≤ 8) := by
    intro i hi
    have b1 := Int.emod_nonneg (ni i) (show (c : Int) + 1 ≠ 0 by omega)
    have b2 := Int.emod_lt_of_pos (ni i) (show 0 < (c : Int) + 1 by omega)
    rw [HN.out i hi]; omega
  go_loopw [14, 15, 16, 17, 18, 19, 20, 21] (fun t14 t15 _ _ _ _ _ _ wr => ∃ (t : Nat) (hs : Int), t ≤ k ∧ t15 = .int .i64 (t : Int) ∧ t14 = .int .i64 hs ∧ Hid (hsum N t = hs) ∧ 0 ≤ hs ∧ hs ≤ 8 * (t : Int) ∧ Hid (PSt H k c t F N X w wr)) (fun _ t15 _ _ _ _ _ _ _ => k - (intOf t15).toNat)
  case atStart => exact ⟨0, 0, Nat.zero_le _, rfl, rfl, rfl, Int.le_refl _, Int.le_refl _, HP0⟩
  case round =>
    clear HP0
    obtain ⟨t, hs, ht, rfl, rfl, HS, hs0, hs1, HP⟩ := hrel
    by_cases hlt : t < k
    · have hlti : (t : Int) < (k : Int) := by omega
      obtain ⟨V, hV⟩ : ∃ V, wr.heap.size = V := ⟨_, rfl⟩
      have HV : Hid (V = H + 5 + 3 * t) := by unfold Hid; rw [← hV]; exact HP.out.size
      have hVk : H + 5 ≤ V := by have := HV.out; omega
      have IL0 := IL.start V c (X t) wr hV
      have ILH : Hid (IL V c 0 (X t) wr ((wr.alloc (.cells (madeCells #[.int .i64 0] c) 3)).alloc (.cells (madeCells #[.int .i64 0] c) 3))) := IL0
      clear IL0
      go_wp2
      obtain ⟨wo, rfl⟩ : ∃ wo : World, wo = wr := ⟨_, rfl⟩
      have m2' := m2
      clear m2
      go_loopw [18, 19] (fun t18 _ wx => ∃ j : Nat, j ≤ c ∧ t18 = .int .i64 (j : Int) ∧ Hid (IL V c j (X t) wo wx)) (fun t18 _ _ => c - (intOf t18).toNat)
      case atStart => exact ⟨0, Nat.zero_le _, rfl, ILH⟩
      case round =>
        clear ILH
        obtain ⟨j, hj, rfl, HI⟩ := hrel
        have hb0 := IN.out.lt t hlt
        have lbV : b0 < V := by have := HHH.out; omega
        have cI0 := (bcell (o := o0 + t * 3) HI.out.bel lbV).trans ((bcell HP.out.bel (by have := HHH.out; omega)).trans (IN.out.g0 t hlt))
        have ix0 := IN.out.ix t hlt
        have szx := HI.out.size
        by_cases hjc : j < c
        · have hjci : (j : Int) < (c : Int) := by omega
          have v0 := HI.out.v j hjc
          have v1 := HI.out.m j hjc
          have z0 := HI.out.fv j
          have z1 := HI.out.fm j
          rw [if_neg (by omega)] at v0 v1
          by_cases hjl : j < sl t
          · have hjli : (j : Int) < (sl t : Int) := by omega
            have cj := (bcell (o := oo t + j) HI.out.bel (by have := IN.out.jlt t j hlt hjl; have := HHH.out; omega)).trans ((bcell HP.out.bel (by have := IN.out.jlt t j hlt hjl; have := HHH.out; omega)).trans (IN.out.jc t j hlt hjl))
            have jx := IN.out.jx t j hlt hjl
            have HXJ : Hid (X t j = xi t j) := by unfold Hid; rw [HX.out t j hlt hjc, if_pos hjl]
            have hll := IN.out.l t hlt
            generalize xi t j = y at *
            generalize sl t = L at *
            generalize sa t = A at *
            generalize sc t = SC at *
            generalize bb t = BB at *
            generalize oo t = OO at *
            go_wp2
            go_roundw
            case rel => exact ⟨j + 1, by omega, by go_num, HI.out.step hjc y HXJ.out⟩
            case measure => simp [intOf]; omega
          · have hdl : decide ((j : Int) < (sl t : Int)) = false := decide_eq_false (by omega)
            have HXJ : Hid (X t j = (t : Int) * 100 + (j : Int) + 1) := by unfold Hid; rw [HX.out t j hlt hjc, if_neg hjl]
            have hll := IN.out.l t hlt
            generalize sl t = L at *
            generalize sa t = A at *
            generalize sc t = SC at *
            go_wp2
            go_roundw
            case rel => exact ⟨j + 1, by omega, by go_num, HI.out.step hjc _ HXJ.out⟩
            case measure => simp [intOf]; omega
        · obtain rfl : j = c := by omega
          have hdc : decide ((j : Int) < (j : Int)) = false := decide_eq_false (by omega)
          have cI1 := (bcell (o := o0 + t * 3 + 1) HI.out.bel lbV).trans ((bcell HP.out.bel (by have := HHH.out; omega)).trans (IN.out.g1 t hlt))
          have cI2 := (bcell (o := o0 + t * 3 + 2) HI.out.bel lbV).trans ((bcell HP.out.bel (by have := HHH.out; omega)).trans (IN.out.g2 t hlt))
          have bF := IN.out.f t hlt
          have bN := IN.out.n t hlt
          have HFt := HF.out t hlt
          have HNt := HN.out t hlt
          have c8 : wr.cell? ⟨H, 8, none⟩ = some (.slice (some ⟨H + 1, 0, none⟩) k k) := (bcell HI.out.bel (by omega)).trans (HP.out.buf 8 (by omega))
          have d1 := (bcell (b := H + 1) (o := t) HI.out.bel (by omega)).trans (HP.out.r1 t hlt)
          have d2 := (bcell (b := H + 2) (o := t) HI.out.bel (by omega)).trans (HP.out.r2 t hlt)
          have d3 := (bcell (b := H + 3) (o := t) HI.out.bel (by omega)).trans (HP.out.r3 t hlt)
          have d4 := (bcell (b := H + 4) (o := t) HI.out.bel (by omega)).trans (HP.out.r4 t hlt)
          rw [if_neg (by omega)] at d1 d2 d3 d4
          have y1 := (HI.out.bel.frozen (p := ⟨H + 1, t, none⟩) (by show H + 1 < V; omega)).trans (HP.out.free (H + 1) t (by omega) (by omega))
          have y2 := (HI.out.bel.frozen (p := ⟨H + 2, t, none⟩) (by show H + 2 < V; omega)).trans (HP.out.free (H + 2) t (by omega) (by omega))
          have y3 := (HI.out.bel.frozen (p := ⟨H + 3, t, none⟩) (by show H + 3 < V; omega)).trans (HP.out.free (H + 3) t (by omega) (by omega))
          have y4 := (HI.out.bel.frozen (p := ⟨H + 4, t, none⟩) (by show H + 4 < V; omega)).trans (HP.out.free (H + 4) t (by omega) (by omega))
          have NBt := NB.out t hlt
          have s1 : H + 1 < V + 2 := by omega
          have s2 : H + 2 < V + 2 := by omega
          have s3 : H + 3 < V + 2 := by omega
          have s4 : H + 4 < V + 2 := by omega
          have s0 : H < V + 2 := by omega
          have s9 : b0 < V + 2 := by omega
          generalize hyf : fi t = yf at *
          generalize hyn : ni t = yn at *
          obtain ⟨fv, efv⟩ : ∃ fv, yf % (j : Int) = fv := ⟨_, rfl⟩
          obtain ⟨nv, env⟩ : ∃ nv, yn % ((j : Int) + 1) = nv := ⟨_, rfl⟩
          have HFV : Hid (F t = fv) := by unfold Hid; rw [HFt, efv]
          have HNV : Hid (N t = nv) := by unfold Hid; rw [HNt, env]
          have bnv : 0 ≤ nv ∧ nv ≤ 8 := by rw [← HNV.out]; exact NBt
          obtain ⟨bnv1, bnv2⟩ := bnv
          obtain ⟨bF1, bF2⟩ := bF
          obtain ⟨bN1, bN2⟩ := bN
          have hjz : ((j : Int) == 0) = false := by simp; omega
          have hjz1 : ((j : Int) + 1 == 0) = false := by simp; omega
          clear hyf hyn HFt HNt NBt cI0
          go_wp2
          go_roundw
          case rel =>
            refine ⟨t + 1, hs + nv, by omega, by go_num, rfl, ?_, by omega, by omega, HP.out.step HI.out HV.out hlt HFV.out HNV.out⟩
            show hsum N t + N t = hs + nv
            rw [HS.out, HNV.out]
          case measure => simp [intOf]; omega
    · obtain rfl : t = k := by omega
      have hd : decide ((t : Int) < (t : Int)) = false := decide_eq_false (by omega)
      go_wp2
      refine bodyPost_ret (v := .tuple #[.pointer (some ⟨H, 0, none⟩), .slice (some ⟨H + 2, 0, none⟩) t t, .slice (some ⟨H + 3, 0, none⟩) t t, .slice (some ⟨H + 4, 0, none⟩) t t, .int .i64 hs]) (by simp [results, Yba.results5, go_sem]) rfl ⟨?_, HP.out.done, HP.out.bel⟩
      rw [HS.out]
end Go.Proofs.Ybulkbyyw
