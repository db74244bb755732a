import Derived.Test.YbulkbyywSeg
import Derived.Test.YbulkbyywList
namespace Go.Proofs.Ybulkbyyw
open Go.RowKit

def updB (B : Nat → Value) (p : Nat) (v : Value) : Nat → Value := fun o => if o = p then v else B o
def updI (F : Nat → Int) (a : Nat) (v : Int) : Nat → Int := fun i => if i = a then v else F i
def updX (X : Nat → Nat → Int) (a f : Nat) (v : Int) : Nat → Nat → Int := fun i j => if i = a ∧ j = f then v else X i j
theorem updB_same (B : Nat → Value) (p : Nat) (v : Value) : updB B p v p = v := if_pos rfl
theorem updB_other (B : Nat → Value) (p : Nat) (v : Value) (o : Nat) (h : ¬ o = p) : updB B p v o = B o := if_neg h
theorem updI_same (F : Nat → Int) (p : Nat) (v : Int) : updI F p v p = v := if_pos rfl
theorem updI_other (F : Nat → Int) (p : Nat) (v : Int) (o : Nat) (h : ¬ o = p) : updI F p v o = F o := if_neg h
theorem updX_same (X : Nat → Nat → Int) (a f : Nat) (v : Int) : updX X a f v a f = v := if_pos ⟨rfl, rfl⟩
theorem updX_other (X : Nat → Nat → Int) (a f : Nat) (v : Int) (i j : Nat) (h : ¬ (i = a ∧ j = f)) : updX X a f v i j = X i j := if_neg h

theorem bcell {B b o : Nat} {w w' : World} (hb : Below B w w') (h : b < B) : w'.cell? ⟨b, o, none⟩ = w.cell? ⟨b, o, none⟩ := hb.cell (p := ⟨b, o, none⟩) h

theorem cell_ne {w : World} {b o b' o' : Nat} {v : Value} (h : b ≠ b' ∨ o ≠ o') : (w.setCell ⟨b, o, none⟩ v).cell? ⟨b', o', none⟩ = w.cell? ⟨b', o', none⟩ := by
  refine World.cell?_setCell_other _ _ _ _ fun e => ?_
  injection e with e1 e2
  omega

/-- The buffer that the law builds, and its copies: H: the buffer's block; H + 1: its segments; H + 2, H + 3, H + 4: the copies' rows; H + 5 + 3 i: segment i's values; H + 6 + 3 i: their copy; H + 7 + 3 i: segment i. -/
structure St (H k c : Nat) (B : Nat → Value) (F N : Nat → Int) (X : Nat → Nat → Int) (F' N' : Nat → Int) (X' : Nat → Nat → Int) (w : World) : Prop where
  buf : ∀ o, o < 19 → w.cell? ⟨H, o, none⟩ = some (B o)
  segs : ∀ i, i < k → w.cell? ⟨H + 1, i, none⟩ = some (.pointer (some ⟨H + 7 + 3 * i, 0, none⟩))
  seg0 : ∀ i, i < k → w.cell? ⟨H + 7 + 3 * i, 0, none⟩ = some (.slice (some ⟨H + 5 + 3 * i, 0, none⟩) c c)
  seg1 : ∀ i, i < k → w.cell? ⟨H + 7 + 3 * i, 1, none⟩ = some (.int .i64 (F i))
  seg2 : ∀ i, i < k → w.cell? ⟨H + 7 + 3 * i, 2, none⟩ = some (.int .i64 (N i))
  val : ∀ i j, i < k → j < c → w.cell? ⟨H + 5 + 3 * i, j, none⟩ = some (.int .i64 (X i j))
  vr : ∀ i, i < k → w.cell? ⟨H + 2, i, none⟩ = some (.slice (some ⟨H + 6 + 3 * i, 0, none⟩) c c)
  fr : ∀ i, i < k → w.cell? ⟨H + 3, i, none⟩ = some (.int .i64 (F' i))
  nr : ∀ i, i < k → w.cell? ⟨H + 4, i, none⟩ = some (.int .i64 (N' i))
  mv : ∀ i j, i < k → j < c → w.cell? ⟨H + 6 + 3 * i, j, none⟩ = some (.int .i64 (X' i j))
  free : ∀ b o, H ≤ b → b < H + 5 + 3 * k → w.frozen? ⟨b, o, none⟩ = false
  size : H + 5 + 3 * k ≤ w.heap.size

theorem St.setBuf {H k c : Nat} {B : Nat → Value} {F N : Nat → Int} {X : Nat → Nat → Int} {F' N' : Nat → Int} {X' : Nat → Nat → Int} {w : World} (h : St H k c B F N X F' N' X' w) (p : Nat) (hp : p < 19) (v : Value) : St H k c (updB B p v) F N X F' N' X' (w.setCell ⟨H, p, none⟩ v) where
  buf := fun o ho => by
    by_cases e : o = p
    · subst e; rw [updB_same]; exact World.cell?_setCell_same _ _ _ (h.buf o ho)
    · rw [updB_other _ _ _ _ e]; exact (cell_ne (by omega)).trans (h.buf o ho)
  segs := fun i hi => (cell_ne (by omega)).trans (h.segs i hi)
  seg0 := fun i hi => (cell_ne (by omega)).trans (h.seg0 i hi)
  seg1 := fun i hi => (cell_ne (by omega)).trans (h.seg1 i hi)
  seg2 := fun i hi => (cell_ne (by omega)).trans (h.seg2 i hi)
  val := fun i j hi hj => (cell_ne (by omega)).trans (h.val i j hi hj)
  vr := fun i hi => (cell_ne (by omega)).trans (h.vr i hi)
  fr := fun i hi => (cell_ne (by omega)).trans (h.fr i hi)
  nr := fun i hi => (cell_ne (by omega)).trans (h.nr i hi)
  mv := fun i j hi hj => (cell_ne (by omega)).trans (h.mv i j hi hj)
  free := fun b o h1 h2 => by rw [World.frozen?_setCell]; exact h.free b o h1 h2
  size := by have := h.size; simpa using this

theorem St.setFirst {H k c : Nat} {B : Nat → Value} {F N : Nat → Int} {X : Nat → Nat → Int} {F' N' : Nat → Int} {X' : Nat → Nat → Int} {w : World} (h : St H k c B F N X F' N' X' w) (a : Nat) (ha : a < k) (v : Int) : St H k c B (updI F a v) N X F' N' X' (w.setCell ⟨H + 7 + 3 * a, 1, none⟩ (.int .i64 v)) where
  buf := fun o ho => (cell_ne (by omega)).trans (h.buf o ho)
  segs := fun i hi => (cell_ne (by omega)).trans (h.segs i hi)
  seg0 := fun i hi => (cell_ne (by omega)).trans (h.seg0 i hi)
  seg1 := fun i hi => by
    by_cases e : i = a
    · subst e; rw [updI_same]; exact World.cell?_setCell_same _ _ _ (h.seg1 i hi)
    · rw [updI_other _ _ _ _ e]; exact (cell_ne (by omega)).trans (h.seg1 i hi)
  seg2 := fun i hi => (cell_ne (by omega)).trans (h.seg2 i hi)
  val := fun i j hi hj => (cell_ne (by omega)).trans (h.val i j hi hj)
  vr := fun i hi => (cell_ne (by omega)).trans (h.vr i hi)
  fr := fun i hi => (cell_ne (by omega)).trans (h.fr i hi)
  nr := fun i hi => (cell_ne (by omega)).trans (h.nr i hi)
  mv := fun i j hi hj => (cell_ne (by omega)).trans (h.mv i j hi hj)
  free := fun b o h1 h2 => by rw [World.frozen?_setCell]; exact h.free b o h1 h2
  size := by have := h.size; simpa using this

theorem St.setN {H k c : Nat} {B : Nat → Value} {F N : Nat → Int} {X : Nat → Nat → Int} {F' N' : Nat → Int} {X' : Nat → Nat → Int} {w : World} (h : St H k c B F N X F' N' X' w) (a : Nat) (ha : a < k) (v : Int) : St H k c B F (updI N a v) X F' N' X' (w.setCell ⟨H + 7 + 3 * a, 2, none⟩ (.int .i64 v)) where
  buf := fun o ho => (cell_ne (by omega)).trans (h.buf o ho)
  segs := fun i hi => (cell_ne (by omega)).trans (h.segs i hi)
  seg0 := fun i hi => (cell_ne (by omega)).trans (h.seg0 i hi)
  seg1 := fun i hi => (cell_ne (by omega)).trans (h.seg1 i hi)
  seg2 := fun i hi => by
    by_cases e : i = a
    · subst e; rw [updI_same]; exact World.cell?_setCell_same _ _ _ (h.seg2 i hi)
    · rw [updI_other _ _ _ _ e]; exact (cell_ne (by omega)).trans (h.seg2 i hi)
  val := fun i j hi hj => (cell_ne (by omega)).trans (h.val i j hi hj)
  vr := fun i hi => (cell_ne (by omega)).trans (h.vr i hi)
  fr := fun i hi => (cell_ne (by omega)).trans (h.fr i hi)
  nr := fun i hi => (cell_ne (by omega)).trans (h.nr i hi)
  mv := fun i j hi hj => (cell_ne (by omega)).trans (h.mv i j hi hj)
  free := fun b o h1 h2 => by rw [World.frozen?_setCell]; exact h.free b o h1 h2
  size := by have := h.size; simpa using this

theorem St.setFr {H k c : Nat} {B : Nat → Value} {F N : Nat → Int} {X : Nat → Nat → Int} {F' N' : Nat → Int} {X' : Nat → Nat → Int} {w : World} (h : St H k c B F N X F' N' X' w) (a : Nat) (ha : a < k) (v : Int) : St H k c B F N X (updI F' a v) N' X' (w.setCell ⟨H + 3, a, none⟩ (.int .i64 v)) where
  buf := fun o ho => (cell_ne (by omega)).trans (h.buf o ho)
  segs := fun i hi => (cell_ne (by omega)).trans (h.segs i hi)
  seg0 := fun i hi => (cell_ne (by omega)).trans (h.seg0 i hi)
  seg1 := fun i hi => (cell_ne (by omega)).trans (h.seg1 i hi)
  seg2 := fun i hi => (cell_ne (by omega)).trans (h.seg2 i hi)
  val := fun i j hi hj => (cell_ne (by omega)).trans (h.val i j hi hj)
  vr := fun i hi => (cell_ne (by omega)).trans (h.vr i hi)
  fr := fun i hi => by
    by_cases e : i = a
    · subst e; rw [updI_same]; exact World.cell?_setCell_same _ _ _ (h.fr i hi)
    · rw [updI_other _ _ _ _ e]; exact (cell_ne (by omega)).trans (h.fr i hi)
  nr := fun i hi => (cell_ne (by omega)).trans (h.nr i hi)
  mv := fun i j hi hj => (cell_ne (by omega)).trans (h.mv i j hi hj)
  free := fun b o h1 h2 => by rw [World.frozen?_setCell]; exact h.free b o h1 h2
  size := by have := h.size; simpa using this

theorem St.setNr {H k c : Nat} {B : Nat → Value} {F N : Nat → Int} {X : Nat → Nat → Int} {F' N' : Nat → Int} {X' : Nat → Nat → Int} {w : World} (h : St H k c B F N X F' N' X' w) (a : Nat) (ha : a < k) (v : Int) : St H k c B F N X F' (updI N' a v) X' (w.setCell ⟨H + 4, a, none⟩ (.int .i64 v)) where
  buf := fun o ho => (cell_ne (by omega)).trans (h.buf o ho)
  segs := fun i hi => (cell_ne (by omega)).trans (h.segs i hi)
  seg0 := fun i hi => (cell_ne (by omega)).trans (h.seg0 i hi)
  seg1 := fun i hi => (cell_ne (by omega)).trans (h.seg1 i hi)
  seg2 := fun i hi => (cell_ne (by omega)).trans (h.seg2 i hi)
  val := fun i j hi hj => (cell_ne (by omega)).trans (h.val i j hi hj)
  vr := fun i hi => (cell_ne (by omega)).trans (h.vr i hi)
  fr := fun i hi => (cell_ne (by omega)).trans (h.fr i hi)
  nr := fun i hi => by
    by_cases e : i = a
    · subst e; rw [updI_same]; exact World.cell?_setCell_same _ _ _ (h.nr i hi)
    · rw [updI_other _ _ _ _ e]; exact (cell_ne (by omega)).trans (h.nr i hi)
  mv := fun i j hi hj => (cell_ne (by omega)).trans (h.mv i j hi hj)
  free := fun b o h1 h2 => by rw [World.frozen?_setCell]; exact h.free b o h1 h2
  size := by have := h.size; simpa using this

theorem St.setVal {H k c : Nat} {B : Nat → Value} {F N : Nat → Int} {X : Nat → Nat → Int} {F' N' : Nat → Int} {X' : Nat → Nat → Int} {w : World} (h : St H k c B F N X F' N' X' w) (a f : Nat) (ha : a < k) (hf : f < c) (v : Int) : St H k c B F N (updX X a f v) F' N' X' (w.setCell ⟨H + 5 + 3 * a, f, none⟩ (.int .i64 v)) where
  buf := fun o ho => (cell_ne (by omega)).trans (h.buf o ho)
  segs := fun i hi => (cell_ne (by omega)).trans (h.segs i hi)
  seg0 := fun i hi => (cell_ne (by omega)).trans (h.seg0 i hi)
  seg1 := fun i hi => (cell_ne (by omega)).trans (h.seg1 i hi)
  seg2 := fun i hi => (cell_ne (by omega)).trans (h.seg2 i hi)
  val := fun i j hi hj => by
    by_cases e : i = a ∧ j = f
    · obtain ⟨rfl, rfl⟩ := e; rw [updX_same]; exact World.cell?_setCell_same _ _ _ (h.val i j hi hj)
    · rw [updX_other _ _ _ _ _ _ e]; exact (cell_ne (by omega)).trans (h.val i j hi hj)
  vr := fun i hi => (cell_ne (by omega)).trans (h.vr i hi)
  fr := fun i hi => (cell_ne (by omega)).trans (h.fr i hi)
  nr := fun i hi => (cell_ne (by omega)).trans (h.nr i hi)
  mv := fun i j hi hj => (cell_ne (by omega)).trans (h.mv i j hi hj)
  free := fun b o h1 h2 => by rw [World.frozen?_setCell]; exact h.free b o h1 h2
  size := by have := h.size; simpa using this

theorem St.setMv {H k c : Nat} {B : Nat → Value} {F N : Nat → Int} {X : Nat → Nat → Int} {F' N' : Nat → Int} {X' : Nat → Nat → Int} {w : World} (h : St H k c B F N X F' N' X' w) (a f : Nat) (ha : a < k) (hf : f < c) (v : Int) : St H k c B F N X F' N' (updX X' a f v) (w.setCell ⟨H + 6 + 3 * a, f, none⟩ (.int .i64 v)) where
  buf := fun o ho => (cell_ne (by omega)).trans (h.buf o ho)
  segs := fun i hi => (cell_ne (by omega)).trans (h.segs i hi)
  seg0 := fun i hi => (cell_ne (by omega)).trans (h.seg0 i hi)
  seg1 := fun i hi => (cell_ne (by omega)).trans (h.seg1 i hi)
  seg2 := fun i hi => (cell_ne (by omega)).trans (h.seg2 i hi)
  val := fun i j hi hj => (cell_ne (by omega)).trans (h.val i j hi hj)
  vr := fun i hi => (cell_ne (by omega)).trans (h.vr i hi)
  fr := fun i hi => (cell_ne (by omega)).trans (h.fr i hi)
  nr := fun i hi => (cell_ne (by omega)).trans (h.nr i hi)
  mv := fun i j hi hj => by
    by_cases e : i = a ∧ j = f
    · obtain ⟨rfl, rfl⟩ := e; rw [updX_same]; exact World.cell?_setCell_same _ _ _ (h.mv i j hi hj)
    · rw [updX_other _ _ _ _ _ _ e]; exact (cell_ne (by omega)).trans (h.mv i j hi hj)
  free := fun b o h1 h2 => by rw [World.frozen?_setCell]; exact h.free b o h1 h2
  size := by have := h.size; simpa using this

theorem St.setOut {H k c : Nat} {B : Nat → Value} {F N : Nat → Int} {X : Nat → Nat → Int} {F' N' : Nat → Int} {X' : Nat → Nat → Int} {w : World} (h : St H k c B F N X F' N' X' w) (b o : Nat) (hb : H + 5 + 3 * k ≤ b) (v : Value) : St H k c B F N X F' N' X' (w.setCell ⟨b, o, none⟩ v) where
  buf := fun o ho => (cell_ne (by omega)).trans (h.buf o ho)
  segs := fun i hi => (cell_ne (by omega)).trans (h.segs i hi)
  seg0 := fun i hi => (cell_ne (by omega)).trans (h.seg0 i hi)
  seg1 := fun i hi => (cell_ne (by omega)).trans (h.seg1 i hi)
  seg2 := fun i hi => (cell_ne (by omega)).trans (h.seg2 i hi)
  val := fun i j hi hj => (cell_ne (by omega)).trans (h.val i j hi hj)
  vr := fun i hi => (cell_ne (by omega)).trans (h.vr i hi)
  fr := fun i hi => (cell_ne (by omega)).trans (h.fr i hi)
  nr := fun i hi => (cell_ne (by omega)).trans (h.nr i hi)
  mv := fun i j hi hj => (cell_ne (by omega)).trans (h.mv i j hi hj)
  free := fun b o h1 h2 => by rw [World.frozen?_setCell]; exact h.free b o h1 h2
  size := by have := h.size; simpa using this

theorem St.kept {H k c : Nat} {B : Nat → Value} {F N : Nat → Int} {X : Nat → Nat → Int} {F' N' : Nat → Int} {X' : Nat → Nat → Int} {w : World} {w' : World} (h : St H k c B F N X F' N' X' w) (hb : Below (H + 5 + 3 * k) w w') : St H k c B F N X F' N' X' w' where
  buf := fun o ho => (bcell hb (by omega)).trans (h.buf o ho)
  segs := fun i hi => (bcell hb (by omega)).trans (h.segs i hi)
  seg0 := fun i hi => (bcell hb (by omega)).trans (h.seg0 i hi)
  seg1 := fun i hi => (bcell hb (by omega)).trans (h.seg1 i hi)
  seg2 := fun i hi => (bcell hb (by omega)).trans (h.seg2 i hi)
  val := fun i j hi hj => (bcell hb (by omega)).trans (h.val i j hi hj)
  vr := fun i hi => (bcell hb (by omega)).trans (h.vr i hi)
  fr := fun i hi => (bcell hb (by omega)).trans (h.fr i hi)
  nr := fun i hi => (bcell hb (by omega)).trans (h.nr i hi)
  mv := fun i j hi hj => (bcell hb (by omega)).trans (h.mv i j hi hj)
  free := fun b o h1 h2 => (hb.frozen (p := ⟨b, o, none⟩) h2).trans (h.free b o h1 h2)
  size := Nat.le_trans h.size hb.size

theorem St.drewN {H k c : Nat} {B : Nat → Value} {F N : Nat → Int} {X : Nat → Nat → Int} {F' N' : Nat → Int} {X' : Nat → Nat → Int} {w : World} (h : St H k c B F N X F' N' X' w) (q : Nat) : St H k c B F N X F' N' X' (w.drewN q) :=
  ⟨h.buf, h.segs, h.seg0, h.seg1, h.seg2, h.val, h.vr, h.fr, h.nr, h.mv, h.free, h.size⟩

theorem St.alloc {H k c : Nat} {B : Nat → Value} {F N : Nat → Int} {X : Nat → Nat → Int} {F' N' : Nat → Int} {X' : Nat → Nat → Int} {w : World} (h : St H k c B F N X F' N' X' w) (O : Obj) : St H k c B F N X F' N' X' (w.alloc O) :=
  h.kept ((Below.refl _ _).alloc h.size _)

end Go.Proofs.Ybulkbyyw
