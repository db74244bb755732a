import Derived.Test.YbulkbywePlain
namespace Go.Proofs.Ybulkbywe
open Go.RowKit

/-- A slice of ints that is nil, or lies at the head of a block that is there. -/
def Row (w : World) (a : Option Addr) (zs : List Int) : Prop :=
  (a = none ∧ zs = []) ∨ ∃ b, a = some ⟨b, 0, none⟩ ∧ b < w.heap.size ∧ ∀ j, j < zs.length → w.cell? ⟨b, j, none⟩ = some (.int .i64 (zs.getD j 0))

theorem Row.kept {w w' : World} {a : Option Addr} {zs : List Int} (h : Row w a zs) (hb : Below w.heap.size w w') : Row w' a zs := by
  rcases h with h | ⟨b, ha, hlt, hc⟩
  · exact .inl h
  · exact .inr ⟨b, ha, Nat.lt_of_lt_of_le hlt hb.size, fun j hj => (hb.cell (p := ⟨b, j, none⟩) hlt).trans (hc j hj)⟩

theorem Row.drewN {w : World} {a : Option Addr} {zs : List Int} (h : Row w a zs) (q : Nat) : Row (w.drewN q) a zs := h

theorem Row.setOther {w : World} {a : Option Addr} {zs : List Int} (h : Row w a zs) (g o : Nat) (u : Value) (hne : ∀ b, a = some ⟨b, 0, none⟩ → b ≠ g) : Row (w.setCell ⟨g, o, none⟩ u) a zs := by
  rcases h with h | ⟨b, ha, hlt, hc⟩
  · exact .inl h
  · refine .inr ⟨b, ha, by simpa using hlt, fun j hj => ?_⟩
    rw [← hc j hj]
    exact World.cell?_of_block (heap_setCell_other w ⟨g, o, none⟩ b u (hne b ha))

theorem Row.own {w : World} {B g n cap : Nat} {zs : List Int} (h : w.ownsRow B 3 1 (.slice (some ⟨g, 0, none⟩) n cap) n (zs.map (Value.int .i64))) (hg : g < w.heap.size) : Row w (some ⟨g, 0, none⟩) zs := by
  refine .inr ⟨g, rfl, hg, fun j hj => ?_⟩
  have hl : zs.length = n := by simpa using h.1
  rw [h.cellAt j (by omega)]
  simp [List.getD, List.getElem?_eq_getElem hj]

/-- slices.Clone. -/
theorem clone_law (a : Option Addr) (n c : Nat) (zs : List Int) (w : World) (hz : zs.length = n) (hbig : n ≤ 4096) (hr : Row w a zs) :
    Calls Yba.prog 4 #[.slice a n c] w fun e w' => ∃ a' c', e = .returned (.slice a' n c') ∧ Row w' a' zs ∧ Below w.heap.size w w' := by
  rcases hr with ⟨rfl, rfl⟩ | ⟨b, rfl, hlt, hc⟩
  · simp at hz; subst hz
    refine (clone_nil 0 c w).mono ?_
    rintro e w' ⟨rfl, rfl⟩
    exact ⟨none, 0, rfl, .inl ⟨rfl, rfl⟩, Below.refl _ _⟩
  · refine (clone_some b 0 n c zs w hz (by omega) (fun j hj => by rw [Nat.zero_add]; exact hc j hj)).mono ?_
    rintro e w' ⟨v', rfl, hown, hne, hbel⟩
    have ho := hown
    rcases hown.2 with ⟨h, _⟩ | ⟨g, cap, cur, rfl, hbg, hg, _⟩
    · exact absurd h hne
    · refine ⟨_, cap, rfl, Row.own ho ?_, hbel⟩
      by_cases h : g < w'.heap.size
      · exact h
      · rw [Array.getElem?_eq_none (by omega)] at hg; cases hg

/-- slices.Equal of two rows that hold the same numbers. -/
theorem equal_law (a1 a2 : Option Addr) (n c1 c2 : Nat) (zs : List Int) (w : World) (hz : zs.length = n) (hbig : n ≤ 4096) (h1 : Row w a1 zs) (h2 : Row w a2 zs) :
    Calls Yba.prog 6 #[.slice a1 n c1, .slice a2 n c2] w fun e w' => e = .returned (.bool true) ∧ ∃ q, w' = w.drewN q := by
  by_cases h0 : n = 0
  · subst h0
    refine (equal_nil c1 c2 a1 a2 w).mono ?_
    rintro e w' ⟨rfl, rfl⟩
    exact ⟨rfl, 0, rfl⟩
  · rcases h1 with ⟨_, rfl⟩ | ⟨b1, rfl, _, hc1⟩
    · simp at hz; omega
    · rcases h2 with ⟨_, rfl⟩ | ⟨b2, rfl, _, hc2⟩
      · simp at hz; omega
      · exact equal_same b1 0 c1 b2 0 c2 n zs w hz (by omega) (fun j hj => by rw [Nat.zero_add]; exact hc1 j (by omega)) (fun j hj => by rw [Nat.zero_add]; exact hc2 j (by omega))

/-- The indexes as numbers. -/
def zI (bs : List Bool) (k : Nat) : List Int := (idx bs k).map (fun i : Nat => (i : Int))
theorem zI_length (bs : List Bool) (k : Nat) : (zI bs k).length = (idx bs k).length := by simp [zI]
theorem zI_succ (bs : List Bool) (k : Nat) : zI bs (k + 1) = zI bs k ++ (if bs.getD k false then [(k : Int) + 1] else []) := by
  unfold zI; rw [idx_succ, List.map_append]; congr 1; split <;> simp

/-- What 'only' holds. -/
def OnlyOk (I : List Nat) (only : Int) : Prop := (∃ i, I = [i] ∧ only = (i : Int)) ∨ (only = 0 ∧ I.length ≠ 1)

theorem span_law (bg bm cm n N ci k : Nat) (ao : Option Addr) (bs : List Bool) (st ln : List Int) (only p1 p2 : Int) (w : World) (hk : k ≤ 1024) (hn : n = (idx bs k).length) (hN : N = 2 * k + 2)
    (hp : wantS bs st ln k = (p1, p2)) (ho : OnlyOk (idx bs k) only)
    (g0 : w.cell? ⟨bg, 0, none⟩ = some (.slice ao n ci)) (g1 : w.cell? ⟨bg, 1, none⟩ = some (.int .i64 only))
    (hI : Row w ao (zI bs k)) (hM : Row w (some ⟨bm, 0, none⟩) (mL k st ln k)) :
    Calls Yba.prog 5 #[.pointer (some ⟨bg, 0, none⟩), .slice (some ⟨bm, 0, none⟩) N cm] w fun e w' =>
      e = .returned (.tuple #[.int .i64 p1, .int .i64 p2]) ∧ ∃ q, w' = w.drewN q := by
  have hl := mL_length k st ln k
  have hm : ∀ j, j < (mL k st ln k).length → w.cell? ⟨bm, j, none⟩ = some (.int .i64 ((mL k st ln k).getD j 0)) := by
    rcases hM with ⟨h, _⟩ | ⟨b, h, _, hc⟩
    · cases h
    · simp only [Option.some.injEq, Addr.mk.injEq, and_true] at h
      subst h; exact hc
  have eN : N = (mL k st ln k).length := by omega
  subst hn
  rw [eN]
  rcases ho with ⟨i, hi, rfl⟩ | ⟨rfl, hne⟩
  · have hb := idx_mem bs k i (by rw [hi]; simp)
    refine (span_only bg bm cm i (mL k st ln k) w (by omega) (by omega) (by omega) g1 hm).mono ?_
    rintro e w' ⟨rfl, hw⟩
    have := span_one bs st ln k i hi
    rw [hp] at this
    simp only [Prod.mk.injEq] at this
    rw [this.1, this.2]
    exact ⟨rfl, hw⟩
  · rcases hI with ⟨rfl, h0⟩ | ⟨gi, rfl, _, hx⟩
    · have hI0 : idx bs k = [] := by simpa [zI] using h0
      rw [hI0] at g0
      refine (span_nil bg bm cm _ ci none w g1 g0).mono ?_
      rintro e w' ⟨rfl, rfl⟩
      have := span_want bs st ln k
      rw [hp, hI0] at this
      simp only [spanS, List.find?_nil, Prod.mk.injEq] at this
      rw [← this.1, ← this.2]
      exact ⟨rfl, 0, rfl⟩
    · have hle := idx_length bs k
      refine (span_some bg bm cm gi ci (mL k st ln k) (idx bs k) w (fun i hi => by have := idx_mem bs k i hi; omega) (by omega) (by omega) g1 g0 hm (fun j hj => ?_)).mono ?_
      · rw [hx j (by rw [zI_length]; exact hj)]
        simp [zI, List.getD, List.getElem?_eq_getElem hj]
      · rintro e w' ⟨rfl, hw⟩
        rw [span_want, hp]
        exact ⟨rfl, hw⟩

theorem only_one {bs : List Bool} {k : Nat} {n : Nat} {x : Int} (hn : n = (idx bs k).length) (h1 : n = 1) (hx : (zI bs k).getD 0 0 = x) : OnlyOk (idx bs k) x := by
  left
  rw [h1] at hn
  obtain ⟨i, hi⟩ := List.length_eq_one_iff.1 hn.symm
  refine ⟨i, hi, ?_⟩
  rw [← hx]; simp [zI, hi]

/-- What the second loop's round leaves. -/
theorem keepG {G : Nat} {wx w' : World} {ao : Option Addr} {n c : Nat} {xs : List Value} {O : Obj} (hown : wx.ownsRow (G + 1) 3 1 (.slice ao n c) n xs) (hgrow : (wx.alloc O).grownBy w' (Value.slice ao n c).ownBlock) (hs : G < wx.heap.size) :
    w'.heap[G]? = wx.heap[G]? := by
  have h1 := hgrow.block G (by simp; omega) (by
    rcases hown.2 with ⟨h, _⟩ | ⟨g, cap, cur, h, hbg, _⟩
    · rw [h]; simp [Value.ownBlock]
    · rw [h]; simp [Value.ownBlock]; omega)
  rw [h1]
  exact Below.heap_alloc _ _ _ hs

theorem own_slice {w : World} {B n : Nat} {v : Value} {xs : List Value} (h : w.ownsRow B 3 1 v n xs) : ∃ ao c, v = .slice ao n c := by
  rcases h.2 with ⟨rfl, rfl⟩ | ⟨g, cap, cur, rfl, _⟩
  · exact ⟨_, _, rfl⟩
  · exact ⟨_, _, rfl⟩

theorem own_row {w : World} {B n c : Nat} {ao : Option Addr} {zs : List Int} (h : w.ownsRow B 3 1 (.slice ao n c) n (zs.map (Value.int .i64))) : Row w ao zs ∧ ∀ b, ao = some ⟨b, 0, none⟩ → B ≤ b := by
  have hl : zs.length = n := by simpa using h.1
  rcases h.2 with ⟨hv, hn⟩ | ⟨g, cap, cur, hv, hbg, hg, _⟩
  · simp only [Value.slice.injEq] at hv
    obtain ⟨rfl, _, _⟩ := hv
    exact ⟨.inl ⟨rfl, by rw [hn] at hl; simpa using hl⟩, fun b hb => by cases hb⟩
  · simp only [Value.slice.injEq] at hv
    obtain ⟨rfl, _, rfl⟩ := hv
    refine ⟨Row.own h ?_, fun b hb => ?_⟩
    · by_cases hh : g < w.heap.size
      · exact hh
      · rw [Array.getElem?_eq_none (by omega)] at hg; cases hg
    · simp only [Option.some.injEq, Addr.mk.injEq, and_true] at hb
      omega

end Go.Proofs.Ybulkbywe
