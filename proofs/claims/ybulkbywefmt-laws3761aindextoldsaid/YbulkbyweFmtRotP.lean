import Derived.Test.YbulkbyweFmtRot
namespace Go.Proofs.YbulkbyweFmt
open Go.Shelf Go.RowKit Go.Lib Go.Sort Go.Proofs

/-- d' is d with [a, m) and [m, b) in each other's place. -/
def RotR (d d' : Array (Nat × Nat)) (a m b : Nat) : Prop :=
  d'.size = d.size ∧ ∀ t, d'[t]! = if a ≤ t ∧ t < b then (if t < a + (b - m) then d[t + (m - a)]! else d[t - (b - m)]!) else d[t]!

theorem swIdx (a b n t : Nat) (d : Array (Nat × Nat)) : (if a ≤ t ∧ t < a + n then d[t + (b - a)]! else if b ≤ t ∧ t < b + n then d[t - (b - a)]! else d[t]!) = d[if a ≤ t ∧ t < a + n then t + (b - a) else if b ≤ t ∧ t < b + n then t - (b - a) else t]! := by
  split
  · rfl
  · split <;> rfl

theorem rotIdx (a m b t : Nat) (d : Array (Nat × Nat)) : (if a ≤ t ∧ t < b then (if t < a + (b - m) then d[t + (m - a)]! else d[t - (b - m)]!) else d[t]!) = d[if a ≤ t ∧ t < b then (if t < a + (b - m) then t + (m - a) else t - (b - m)) else t]! := by
  split
  · split <;> rfl
  · rfl

theorem RotR.last {d d' : Array (Nat × Nat)} {m i : Nat} (h : SwR d d' (m - i) m i) (hi : i ≤ m) : RotR d d' (m - i) m (m + i) := by
  refine ⟨h.1, fun t => ?_⟩
  rw [h.2, swIdx, rotIdx]
  congr 1
  split <;> split <;> (try split) <;> (try split) <;> omega

theorem RotR.left {d d1 d' : Array (Nat × Nat)} {m i j : Nat} (h : SwR d d1 (m - i) m j) (hi : i ≤ m) (hij : j < i) (k : RotR d1 d' (m - (i - j)) m (m + j)) : RotR d d' (m - i) m (m + j) := by
  refine ⟨k.1.trans h.1, fun t => ?_⟩
  rw [k.2, rotIdx, h.2, swIdx, rotIdx]
  congr 1
  by_cases c1 : m - (i - j) ≤ t ∧ t < m + j
  · rw [if_pos c1]
    by_cases c2 : t < m - (i - j) + (m + j - m)
    · rw [if_pos c2]; split <;> split <;> (try split) <;> (try split) <;> omega
    · rw [if_neg c2]; split <;> split <;> (try split) <;> (try split) <;> omega
  · rw [if_neg c1]; split <;> split <;> (try split) <;> (try split) <;> omega

theorem RotR.right {d d1 d' : Array (Nat × Nat)} {m i j : Nat} (h : SwR d d1 (m - i) (m + j - i) i) (hi : i ≤ m) (hij : i < j) (k : RotR d1 d' (m - i) m (m + (j - i))) : RotR d d' (m - i) m (m + j) := by
  refine ⟨k.1.trans h.1, fun t => ?_⟩
  rw [k.2, rotIdx, h.2, swIdx, rotIdx]
  congr 1
  by_cases c1 : m - i ≤ t ∧ t < m + (j - i)
  · rw [if_pos c1]
    by_cases c2 : t < m - i + (m + (j - i) - m)
    · rw [if_pos c2]; split <;> split <;> (try split) <;> (try split) <;> omega
    · rw [if_neg c2]; split <;> split <;> (try split) <;> (try split) <;> omega
  · rw [if_neg c1]; split <;> split <;> (try split) <;> (try split) <;> omega

end Go.Proofs.YbulkbyweFmt
