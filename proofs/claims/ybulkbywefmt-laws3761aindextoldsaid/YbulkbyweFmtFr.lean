import Derived.Test.YbulkbyweFmtUv2
namespace Go.Proofs.YbulkbyweFmt
open Go.RowKit Go.Lib Go.Proofs

/-- w' is w with new blocks, and with writes to the blocks of X alone. -/
structure Fr (X : Nat → Prop) (w w' : World) : Prop where
  os : w'.os = w.os
  tape : w'.tape = w.tape
  output : w'.output = w.output
  size : w.heap.size ≤ w'.heap.size
  block : ∀ k, k < w.heap.size → ¬ X k → w'.heap[k]? = w.heap[k]?

theorem Fr.refl (X : Nat → Prop) (w : World) : Fr X w w := ⟨rfl, rfl, rfl, Nat.le_refl _, fun _ _ _ => rfl⟩

theorem Fr.trans {X Y Z : Nat → Prop} {a b c : World} (h : Fr X a b) (k : Fr Y b c) (hX : ∀ i, X i → Z i) (hY : ∀ i, i < a.heap.size → Y i → Z i) : Fr Z a c :=
  ⟨k.os.trans h.os, k.tape.trans h.tape, k.output.trans h.output, Nat.le_trans h.size k.size, fun i hi hn =>
    (k.block i (Nat.lt_of_lt_of_le hi h.size) fun hy => hn (hY i hi hy)).trans (h.block i hi fun hx => hn (hX i hx))⟩

theorem Fr.mono {X Z : Nat → Prop} {a b : World} (h : Fr X a b) (hX : ∀ i, i < a.heap.size → X i → Z i) : Fr Z a b :=
  ⟨h.os, h.tape, h.output, h.size, fun i hi hn => h.block i hi fun hx => hn (hX i hi hx)⟩

theorem Fr.drewN {X : Nat → Prop} (w : World) (q : Nat) : Fr X w (w.drewN q) := ⟨rfl, rfl, rfl, Nat.le_refl _, fun _ _ _ => rfl⟩
theorem Fr.drew {X : Nat → Prop} (w : World) : Fr X w w.drew := ⟨rfl, rfl, rfl, Nat.le_refl _, fun _ _ _ => rfl⟩

theorem Fr.alloc {X : Nat → Prop} (w : World) (o : Obj) : Fr X w (w.alloc o) := ⟨rfl, rfl, rfl, by simp, fun k hk _ => Below.heap_alloc _ _ _ hk⟩

theorem Fr.setCell {X : Nat → Prop} (w : World) (p : Addr) (u : Value) (hX : X p.block) : Fr X w (w.setCell p u) :=
  ⟨rfl, rfl, rfl, by simp [World.setCell], fun k _ hn => Below.heap_setCell _ _ _ _ fun e => hn (e ▸ hX)⟩

theorem Fr.grown {X : Nat → Prop} {w w' : World} {row : Option Nat} (h : w.grownBy w' row) (hX : ∀ k, row = some k → X k) : Fr X w w' :=
  ⟨h.os, h.tape, h.output, h.size, fun k hk hn => h.block k hk fun e => hn (hX k e.symm)⟩

theorem Fr.below {B : Nat} {X : Nat → Prop} {w w' : World} (h : Below B w w') (hX : ∀ k, k < w.heap.size → ¬ X k → k < B) : Fr X w w' :=
  ⟨h.os, h.tape, h.output, h.size, fun k hk hn => h.block k (hX k hk hn)⟩

theorem Fr.toBelow {B : Nat} {X : Nat → Prop} {w w' : World} (h : Fr X w w') (hB : B ≤ w.heap.size) (hX : ∀ k, k < B → ¬ X k) : Below B w w' :=
  ⟨h.os, h.tape, h.output, h.size, fun k hk => h.block k (by omega) (hX k hk)⟩

theorem Fr.cell {X : Nat → Prop} {w w' : World} (h : Fr X w w') {b o : Nat} {v : Value} (hc : w.cell? ⟨b, o, none⟩ = some v) (hX : ¬ X b) : w'.cell? ⟨b, o, none⟩ = some v :=
  (World.cell?_of_block (a := ⟨b, o, none⟩) (h.block b (World.block_lt_of_cell? w ⟨b, o, none⟩ hc) hX)).trans hc

theorem Fr.frozen {X : Nat → Prop} {w w' : World} (h : Fr X w w') {b o : Nat} {v : Value} (hc : w.cell? ⟨b, o, none⟩ = some v) (hX : ¬ X b) (hf : w.frozen? ⟨b, o, none⟩ = false) : w'.frozen? ⟨b, o, none⟩ = false :=
  (World.frozen?_of_block (a := ⟨b, o, none⟩) (h.block b (World.block_lt_of_cell? w ⟨b, o, none⟩ hc) hX)).trans hf

theorem Fr.owns {X : Nat → Prop} {w w' : World} (h : Fr X w w') {base e size n : Nat} {v : Value} {xs : List Value} (ho : w.ownsRow base e size v n xs) (hX : ∀ k, v.ownBlock = some k → ¬ X k) : w'.ownsRow base e size v n xs := by
  refine ⟨ho.1, ?_⟩
  rcases ho.2 with hn | ⟨g, cap, cur, rfl, hb, hgg, rest⟩
  · exact .inl hn
  · refine .inr ⟨g, cap, cur, rfl, hb, ?_, rest⟩
    rw [h.block g (Array.getElem?_eq_some_iff.1 hgg).1 (hX g rfl)]
    exact hgg

/-- A block whose cells are all known: n cells from o on, none frozen. -/
structure Rec (w : World) (c o n : Nat) (B : Nat → Value) : Prop where
  cell : ∀ j, j < n → w.cell? ⟨c, o + j, none⟩ = some (B j)
  free : ∀ j, j < n → w.frozen? ⟨c, o + j, none⟩ = false

def updB (B : Nat → Value) (p : Nat) (v : Value) : Nat → Value := fun o => if o = p then v else B o
theorem updB_same (B : Nat → Value) (p : Nat) (v : Value) : updB B p v p = v := if_pos rfl
theorem updB_other (B : Nat → Value) (p : Nat) (v : Value) (o : Nat) (h : ¬ o = p) : updB B p v o = B o := if_neg h

theorem cell_ne {w : World} {b o b' o' : Nat} {v : Value} (h : b ≠ b' ∨ o ≠ o') : (w.setCell ⟨b, o, none⟩ v).cell? ⟨b', o', none⟩ = w.cell? ⟨b', o', none⟩ := by
  refine World.cell?_setCell_other _ _ _ _ fun e => ?_
  injection e with e1 e2
  omega

theorem Rec.set {w : World} {c o n : Nat} {B : Nat → Value} (h : Rec w c o n B) (p : Nat) (hp : p < n) (v : Value) : Rec (w.setCell ⟨c, o + p, none⟩ v) c o n (updB B p v) where
  cell := fun j hj => by
    by_cases e : j = p
    · subst e; rw [updB_same]; exact World.cell?_setCell_same _ _ _ (h.cell j hj)
    · rw [updB_other _ _ _ _ e]; exact (cell_ne (by omega)).trans (h.cell j hj)
  free := fun j hj => by rw [World.frozen?_setCell]; exact h.free j hj

theorem Rec.fr {X : Nat → Prop} {w w' : World} {c o n : Nat} {B : Nat → Value} (h : Rec w c o n B) (f : Fr X w w') (hX : ¬ X c) : Rec w' c o n B where
  cell := fun j hj => f.cell (h.cell j hj) hX
  free := fun j hj => f.frozen (h.cell j hj) hX (h.free j hj)
end Go.Proofs.YbulkbyweFmt
