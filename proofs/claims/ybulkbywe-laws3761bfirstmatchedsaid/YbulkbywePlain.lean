import Derived.Test.YbulkbyweSpan
namespace Go.Proofs.Ybulkbywe
open Go.RowKit

/-- Where group j + 1 begins, and where it ends. -/
def gS (st : List Int) (j : Nat) : Int := if j < st.length ∧ 0 ≤ st.getD j 0 then st.getD j 0 else -1
def gE (st ln : List Int) (j : Nat) : Int :=
  if j < st.length ∧ 0 ≤ st.getD j 0 then (if j < ln.length then st.getD j 0 + ln.getD j 0 else st.getD j 0) else -1

/-- The match, behind k rounds of the first loop. -/
def mL (n : Nat) (st ln : List Int) : Nat → List Int
  | 0 => ((List.replicate (2 * n + 2) 0).set 0 0).set 1 1000
  | k + 1 => ((mL n st ln k).set (2 * k + 2) (gS st k)).set (2 * k + 3) (gE st ln k)

/-- The indexes of the named groups, behind k rounds of the second loop. -/
def idx (bs : List Bool) (k : Nat) : List Nat := ((List.range k).filter (fun j => bs.getD j false)).map (· + 1)

theorem mL_length (n : Nat) (st ln : List Int) (k : Nat) : (mL n st ln k).length = 2 * n + 2 := by
  induction k with
  | zero => simp [mL]
  | succ k ih => simp [mL, ih]

theorem mL_at (n : Nat) (st ln : List Int) (k j : Nat) (hk : k ≤ n) (hj : j < k) : (mL n st ln k).getD (2 * j + 2) 0 = gS st j ∧ (mL n st ln k).getD (2 * j + 3) 0 = gE st ln j := by
  induction k with
  | zero => omega
  | succ k ih =>
    have hl := mL_length n st ln k
    by_cases h : j = k
    · subst h
      simp only [mL, List.getD_eq_getElem?_getD]
      rw [List.getElem?_set_ne (by omega), List.getElem?_set_self (by omega), List.getElem?_set_self (by simp [hl]; omega)]
      exact ⟨rfl, rfl⟩
    · have := ih (by omega) (by omega)
      simp only [mL, List.getD_eq_getElem?_getD] at this ⊢
      rw [List.getElem?_set_ne (by omega), List.getElem?_set_ne (by omega), List.getElem?_set_ne (by omega), List.getElem?_set_ne (by omega)]
      exact this

theorem idx_succ (bs : List Bool) (k : Nat) : idx bs (k + 1) = idx bs k ++ (if bs.getD k false then [k + 1] else []) := by
  unfold idx
  rw [List.range_succ, List.filter_append, List.map_append]
  congr 1
  by_cases h : bs.getD k false = true
  · rw [if_pos h, List.filter_cons_of_pos (by simpa using h)]; rfl
  · rw [if_neg h, List.filter_cons_of_neg (by simpa using h)]; rfl

theorem idx_length (bs : List Bool) (k : Nat) : (idx bs k).length ≤ k := by
  unfold idx
  rw [List.length_map]
  have := List.length_filter_le (fun j => bs.getD j false) (List.range k)
  simpa using this

theorem idx_mem (bs : List Bool) (k i : Nat) (h : i ∈ idx bs k) : 1 ≤ i ∧ i ≤ k := by
  unfold idx at h
  obtain ⟨j, hj, rfl⟩ := List.mem_map.1 h
  have := List.mem_range.1 (List.mem_filter.1 hj).1
  omega

/-- What the law's own third loop answers. -/
def wantS (bs : List Bool) (st ln : List Int) (n : Nat) : Int × Int :=
  match (List.range n).find? (fun j => bs.getD j false && decide (0 ≤ gS st j)) with
  | some j => (gS st j, gE st ln j)
  | none => (-1, -1)

theorem gE_neg (st ln : List Int) (j : Nat) (h : ¬ 0 ≤ gS st j) : gS st j = -1 ∧ gE st ln j = -1 := by
  unfold gS at *
  unfold gE
  by_cases c : j < st.length ∧ 0 ≤ st.getD j 0
  · rw [if_pos c] at h; exact absurd c.2 h
  · rw [if_neg c, if_neg c]; exact ⟨rfl, rfl⟩

/-- span over the match is what the third loop answers. -/
theorem span_want (bs : List Bool) (st ln : List Int) (n : Nat) : spanS (mL n st ln n) (idx bs n) = wantS bs st ln n := by
  unfold spanS wantS idx
  rw [List.find?_map, List.find?_filter]
  have hc : (List.range n).find? (fun a => decide (bs.getD a false = true ∧ ((fun i => decide (0 ≤ (mL n st ln n).getD (2 * i) 0)) ∘ fun x => x + 1) a = true)) = (List.range n).find? (fun j => bs.getD j false && decide (0 ≤ gS st j)) := by
    have hcong : ∀ (l : List Nat), (∀ j ∈ l, j < n) → l.find? (fun a => decide (bs.getD a false = true ∧ ((fun i => decide (0 ≤ (mL n st ln n).getD (2 * i) 0)) ∘ fun x => x + 1) a = true)) = l.find? (fun j => bs.getD j false && decide (0 ≤ gS st j)) := by
      intro l
      induction l with
      | nil => intro _; rfl
      | cons a l ih =>
        intro h
        have ha := h a (by simp)
        have e : (mL n st ln n).getD (2 * (a + 1)) 0 = gS st a := (mL_at n st ln n a (Nat.le_refl _) ha).1
        rw [List.find?_cons, List.find?_cons, ih (fun j hj => h j (by simp [hj]))]
        simp only [Function.comp, e, Bool.decide_and, Bool.decide_eq_true]
    exact hcong _ (fun j hj => List.mem_range.1 hj)
  rw [hc]
  cases hf : (List.range n).find? (fun j => bs.getD j false && decide (0 ≤ gS st j)) with
  | none => rfl
  | some j =>
    have hj : j < n := List.mem_range.1 (List.mem_of_find?_eq_some hf)
    have e := mL_at n st ln n j (Nat.le_refl _) hj
    show ((mL n st ln n).getD (2 * (j + 1)) 0, (mL n st ln n).getD (2 * (j + 1) + 1) 0) = (gS st j, gE st ln j)
    rw [show 2 * (j + 1) + 1 = 2 * j + 3 from by omega, show 2 * (j + 1) = 2 * j + 2 from by omega, e.1, e.2]

/-- The one index: span's short way answers the same. -/
theorem span_one (bs : List Bool) (st ln : List Int) (n i : Nat) (h : idx bs n = [i]) :
    ((mL n st ln n).getD (2 * i) 0, (mL n st ln n).getD (2 * i + 1) 0) = wantS bs st ln n := by
  rw [← span_want, h]
  have hi := idx_mem bs n i (by rw [h]; simp)
  obtain ⟨j, rfl⟩ : ∃ j, i = j + 1 := ⟨i - 1, by omega⟩
  have e := mL_at n st ln n j (Nat.le_refl _) (by omega)
  have e1 : (mL n st ln n).getD (2 * (j + 1)) 0 = gS st j := e.1
  have e2 : (mL n st ln n).getD (2 * (j + 1) + 1) 0 = gE st ln j := e.2
  unfold spanS
  by_cases hp : 0 ≤ gS st j
  · rw [List.find?_cons_of_pos (by simp only [e1, hp, decide_true])]
  · rw [List.find?_cons_of_neg (by simp only [e1, hp, decide_false]; simp), List.find?_nil]
    rw [e1, e2, (gE_neg st ln j hp).1, (gE_neg st ln j hp).2]

theorem want_none_succ (bs : List Bool) (st : List Int) (k : Nat) (hn : (List.range k).find? (fun j => bs.getD j false && decide (0 ≤ gS st j)) = none)
    (h : (bs.getD k false && decide (0 ≤ gS st k)) = false) : (List.range (k + 1)).find? (fun j => bs.getD j false && decide (0 ≤ gS st j)) = none := by
  rw [List.range_succ, List.find?_append, hn]
  simp only [List.find?_cons, h, List.find?_nil]
  rfl

theorem want_hit (bs : List Bool) (st ln : List Int) (n k : Nat) (hk : k < n) (hn : (List.range k).find? (fun j => bs.getD j false && decide (0 ≤ gS st j)) = none)
    (h : (bs.getD k false && decide (0 ≤ gS st k)) = true) : wantS bs st ln n = (gS st k, gE st ln k) := by
  have e : List.range n = List.range k ++ (List.range (n - k)).map (k + ·) := by
    rw [← List.range_add]; congr 1; omega
  have e2 : List.range (n - k) = 0 :: (List.range (n - k - 1)).map (· + 1) := by
    rw [show n - k = (n - k - 1) + 1 from by omega, List.range_succ_eq_map]; rfl
  unfold wantS
  rw [e, List.find?_append, hn, e2, List.map_cons, List.find?_cons]
  simp only [Nat.add_zero, h, Option.none_or]

theorem want_none (bs : List Bool) (st ln : List Int) (n : Nat) (hn : (List.range n).find? (fun j => bs.getD j false && decide (0 ≤ gS st j)) = none) : wantS bs st ln n = (-1, -1) := by
  unfold wantS; rw [hn]
end Go.Proofs.Ybulkbywe
