import Derived.Test.YbulkbyweFmtRotP
import Derived.Sort.LotA
namespace Go.Proofs.YbulkbyweFmt
open Go.Shelf Go.RowKit Go.Lib Go.Sort Go.Proofs

/-- By place, then by index. -/
def lexB (x y : Nat × Nat) : Bool := decide (x.1 < y.1 ∨ (x.1 = y.1 ∧ x.2 < y.2))

theorem lexB_swo : SWO lexB where
  irrefl x := by simp [lexB]
  trans x y z h1 h2 := by simp only [lexB, decide_eq_true_eq] at *; omega
  ntrans x y z h1 h2 := by simp only [lexB, decide_eq_false_iff_not] at *; omega

theorem lexB_asymm {x y : Nat × Nat} (h : lexB x y = true) : lexB y x = false := by simp only [lexB, decide_eq_true_eq, decide_eq_false_iff_not] at *; omega

theorem cmpP_lt {x y : Nat × Nat} (h : y.2 < x.2) : (cmpP x y < 0) ↔ lexB x y = true := by
  unfold cmpP lexB
  simp only [decide_eq_true_eq]
  split
  · simp_all
  · split <;> simp <;> omega

theorem cmpP_nlt {x y : Nat × Nat} (h : y.2 < x.2) : ¬ (cmpP x y < 0) ↔ lexB y x = true := by
  unfold cmpP lexB
  simp only [decide_eq_true_eq]
  split
  · simp; omega
  · split <;> simp <;> omega

/-- The runs that symMerge meets. -/
structure Runs (d : Array (Nat × Nat)) (a m b : Nat) : Prop where
  left : SortedIn lexB a m d
  right : SortedIn lexB m b d
  cross : ∀ s t, a ≤ s → s < m → m ≤ t → t < b → (d[s]!).2 < (d[t]!).2

theorem RotR.id {d : Array (Nat × Nat)} {s m e : Nat} (h : s = m ∨ m = e) (hs : s ≤ m) (he : m ≤ e) : RotR d d s m e := by
  refine ⟨rfl, fun t => ?_⟩
  rw [rotIdx]
  congr 1
  split <;> (try split) <;> omega

theorem RotR.out {d d' : Array (Nat × Nat)} {s m e : Nat} (h : RotR d d' s m e) {t : Nat} (ht : t < s ∨ e ≤ t) : d'[t]! = d[t]! := by
  rw [h.2, if_neg (by omega)]

theorem RotR.lo {d d' : Array (Nat × Nat)} {s m e : Nat} (h : RotR d d' s m e) {t : Nat} (h1 : s ≤ t) (h2 : t < s + (e - m)) (_hm : s ≤ m) (_he : m ≤ e) : d'[t]! = d[t + (m - s)]! := by
  rw [h.2, if_pos (by omega), if_pos h2]

theorem RotR.hi {d d' : Array (Nat × Nat)} {s m e : Nat} (h : RotR d d' s m e) {t : Nat} (h1 : s + (e - m) ≤ t) (h2 : t < e) (_hm : s ≤ m) (_he : m ≤ e) : d'[t]! = d[t - (e - m)]! := by
  rw [h.2, if_pos (by omega), if_neg (by omega)]

theorem RotR.perm {d d' : Array (Nat × Nat)} {s m e : Nat} (h : RotR d d' s m e) (hm : s ≤ m) (he : m ≤ e) (hb : e ≤ d.size) : PermIn s e d d' := by
  refine ⟨h.1, fun t ht => h.out ht, ?_⟩
  rw [extract_toList d' s e (by rw [h.1]; exact hb), extract_toList d s e hb]
  have e1 : List.range' s (e - s) = List.range' s (e - m) ++ List.range' (s + (e - m)) (m - s) := by
    rw [List.range'_append_1]; congr 1; omega
  have e2 : List.range' s (e - s) = List.range' s (m - s) ++ List.range' m (e - m) := by
    have := List.range'_append_1 (s := s) (m := m - s) (n := e - m)
    rw [show s + (m - s) = m by omega, show m - s + (e - m) = e - s by omega] at this
    exact this.symm
  have f1 : (List.range' s (e - m)).map (fun i => d'[i]!) = (List.range' m (e - m)).map (fun i => d[i]!) := by
    apply List.ext_getElem
    · simp
    · intro k h1 h2
      simp only [List.length_map, List.length_range'] at h1
      simp only [List.getElem_map, List.getElem_range', Nat.one_mul]
      rw [h.lo (by omega) (by omega) hm he]; exact congrArg (fun q => d[q]!) (by omega)
  have f2 : (List.range' (s + (e - m)) (m - s)).map (fun i => d'[i]!) = (List.range' s (m - s)).map (fun i => d[i]!) := by
    apply List.ext_getElem
    · simp
    · intro k h1 h2
      simp only [List.length_map, List.length_range'] at h1
      simp only [List.getElem_map, List.getElem_range', Nat.one_mul]
      rw [h.hi (by omega) (by omega) hm he]; exact congrArg (fun q => d[q]!) (by omega)
  conv => lhs; rw [e1, List.map_append, f1, f2]
  conv => rhs; rw [e2, List.map_append]
  exact List.perm_append_comm

/-- Where the runs are cut at s and e, all of the first halves is less than all of the second. -/
structure Cut (d : Array (Nat × Nat)) (a m b s e : Nat) : Prop where
  c1 : a ≤ s
  c2 : s ≤ m
  c3 : m ≤ e
  c4 : e ≤ b
  xy : a < s → e < b → lexB d[s - 1]! d[e]! = true
  yx : m < e → s < m → lexB d[e - 1]! d[s]! = true

theorem sorted_lt {d : Array (Nat × Nat)} {a b : Nat} (h : SortedIn lexB a b d) (i j : Nat) (h1 : a ≤ i) (h2 : i ≤ j) (h3 : j < b) : lexB d[j]! d[i]! = false := by
  by_cases e : i = j
  · subst e; exact lexB_swo.irrefl _
  · exact h i j h1 (by omega) h3

/-- x ≤ y < z ≤ u. -/
theorem lex_chain {x y z u : Nat × Nat} (h1 : lexB y x = false) (h2 : lexB y z = true) (h3 : lexB u z = false) : lexB x u = true := by
  simp only [lexB, decide_eq_true_eq, decide_eq_false_iff_not] at *; omega

theorem lex_of {x y : Nat × Nat} (h1 : lexB y x = false) (h2 : x ≠ y) : lexB x y = true := by
  have : x.1 ≠ y.1 ∨ x.2 ≠ y.2 := by
    by_cases e1 : x.1 = y.1
    · by_cases e2 : x.2 = y.2
      · exact absurd (Prod.ext e1 e2) h2
      · exact Or.inr e2
    · exact Or.inl e1
  simp only [lexB, decide_eq_true_eq, decide_eq_false_iff_not] at *; omega

/-- Behind the rotation: nothing of the second half is less than anything of the first. -/
theorem Cut.halves {d d1 : Array (Nat × Nat)} {a m b s e : Nat} (c : Cut d a m b s e) (R : Runs d a m b) (h : RotR d d1 s m e) :
    ∀ i j, a ≤ i → i < s + (e - m) → s + (e - m) ≤ j → j < b → lexB d1[j]! d1[i]! = false := by
  obtain ⟨h1, h2, h3, h4, xy, yx⟩ := c
  intro i j hai him hmj hjb
  by_cases ci : i < s
  · rw [h.out (t := i) (Or.inl ci)]
    by_cases cj : j < e
    · rw [h.hi (t := j) hmj cj h2 h3]
      exact R.left i (j - (e - m)) hai (by omega) (by omega)
    · rw [h.out (t := j) (Or.inr (by omega))]
      exact lexB_asymm (lex_chain (sorted_lt R.left i (s - 1) hai (by omega) (by omega)) (xy (by omega) (by omega)) (sorted_lt R.right e j h3 (by omega) hjb))
  · rw [h.lo (t := i) (by omega) him h2 h3]
    by_cases cj : j < e
    · rw [h.hi (t := j) hmj cj h2 h3]
      exact lexB_asymm (lex_chain (sorted_lt R.right (i + (m - s)) (e - 1) (by omega) (by omega) (by omega)) (yx (by omega) (by omega)) (sorted_lt R.left s (j - (e - m)) h1 (by omega) (by omega)))
    · rw [h.out (t := j) (Or.inr (by omega))]
      exact R.right (i + (m - s)) j (by omega) (by omega) hjb

/-- The first half's runs, behind the rotation. -/
theorem Cut.low {d d1 : Array (Nat × Nat)} {a m b s e : Nat} (c : Cut d a m b s e) (R : Runs d a m b) (h : RotR d d1 s m e) : Runs d1 a s (s + (e - m)) := by
  obtain ⟨h1, h2, h3, h4, -, -⟩ := c
  refine ⟨fun i j hi hij hj => ?_, fun i j hi hij hj => ?_, fun i j hi hs hj he => ?_⟩
  · rw [h.out (t := i) (by omega), h.out (t := j) (by omega)]; exact R.left i j hi hij (by omega)
  · rw [h.lo (t := i) hi (by omega) h2 h3, h.lo (t := j) (by omega) hj h2 h3]; exact R.right _ _ (by omega) (by omega) (by omega)
  · rw [h.out (t := i) (by omega), h.lo (t := j) hj he h2 h3]; exact R.cross _ _ hi (by omega) (by omega) (by omega)

theorem Cut.high {d d1 : Array (Nat × Nat)} {a m b s e : Nat} (c : Cut d a m b s e) (R : Runs d a m b) (h : RotR d d1 s m e) : Runs d1 (s + (e - m)) e b := by
  obtain ⟨h1, h2, h3, h4, -, -⟩ := c
  refine ⟨fun i j hi hij hj => ?_, fun i j hi hij hj => ?_, fun i j hi hs hj he => ?_⟩
  · rw [h.hi (t := i) hi (by omega) h2 h3, h.hi (t := j) (by omega) hj h2 h3]; exact R.left _ _ (by omega) (by omega) (by omega)
  · rw [h.out (t := i) (by omega), h.out (t := j) (by omega)]; exact R.right i j (by omega) hij hj
  · rw [h.hi (t := i) hi hs h2 h3, h.out (t := j) (by omega)]; exact R.cross _ _ (by omega) (by omega) (by omega) he

/-- A run that is one run already. -/
theorem Runs.one {d : Array (Nat × Nat)} {a m b : Nat} (R : Runs d a m b) (h : m ≤ a ∨ b ≤ m) : SortedIn lexB a b d := by
  intro i j hi hij hj
  rcases h with h | h
  · exact R.right i j (by omega) hij hj
  · exact R.left i j hi hij (by omega)

theorem Runs.perm {d d' : Array (Nat × Nat)} {a b p m q : Nat} (R : Runs d p m q) (h : PermIn a b d d') (hq : b ≤ p ∨ q ≤ a) (hp : p ≤ m) (hm : m ≤ q) : Runs d' p m q := by
  refine ⟨fun i j hi hij hj => ?_, fun i j hi hij hj => ?_, fun i j hi hs hj he => ?_⟩
  · rw [h.2.1 i (by omega), h.2.1 j (by omega)]; exact R.left i j hi hij hj
  · rw [h.2.1 i (by omega), h.2.1 j (by omega)]; exact R.right i j hi hij hj
  · rw [h.2.1 i (by omega), h.2.1 j (by omega)]; exact R.cross i j hi hs hj he

/-- The whole: rotated, both halves sorted. -/
theorem merge_done {d d1 d2 d3 : Array (Nat × Nat)} {a m b s e : Nat} (c : Cut d a m b s e) (R : Runs d a m b) (h : RotR d d1 s m e) (hb : b ≤ d.size)
    (p2 : PermIn a (s + (e - m)) d1 d2) (s2 : SortedIn lexB a (s + (e - m)) d2) (p3 : PermIn (s + (e - m)) b d2 d3) (s3 : SortedIn lexB (s + (e - m)) b d3) :
    PermIn a b d d3 ∧ SortedIn lexB a b d3 := by
  have H := c.halves R h
  obtain ⟨h1, h2, h3, h4, -, -⟩ := c
  have z1 := h.1
  have z2 := p2.1
  have q1 : PermIn a b d d1 := permIn_mono _ _ _ _ _ _ h1 h4 hb (h.perm h2 h3 (by omega))
  have q2 : PermIn a b d1 d2 := permIn_mono _ _ _ _ _ _ (Nat.le_refl _) (by omega) (by omega) p2
  have q3 : PermIn a b d2 d3 := permIn_mono _ _ _ _ _ _ (by omega) (Nat.le_refl _) (by omega) p3
  refine ⟨permIn_trans _ _ _ _ _ q1 (permIn_trans _ _ _ _ _ q2 q3), fun i j hi hij hj => ?_⟩
  by_cases cj : j < s + (e - m)
  · rw [p3.2.1 i (by omega), p3.2.1 j (by omega)]; exact s2 i j hi hij cj
  · by_cases ci : i < s + (e - m)
    · rw [p3.2.1 i (by omega)]
      have A : ∀ y, (∀ i, a ≤ i → i < s + (e - m) → lexB y d1[i]! = false) → lexB y d2[i]! = false := fun y hy =>
        permIn_all d1 d2 a (s + (e - m)) (fun x => lexB y x = false) (by omega) p2 hy i hi ci
      have B : ∀ j, s + (e - m) ≤ j → j < b → lexB d2[j]! d2[i]! = false := fun j h5 h6 => by
        rw [p2.2.1 j (by omega)]; exact A _ (fun i' h7 h8 => H i' j h7 h8 h5 h6)
      exact permIn_all d2 d3 (s + (e - m)) b (fun y => lexB y d2[i]! = false) (by omega) p3 B j (by omega) hj
    · exact s3 i j (by omega) hij hj

/-- The left run has one element: it is laid behind those of the right run that are less. -/
theorem merge_left1 {d d1 : Array (Nat × Nat)} {a m b e : Nat} (c : Cut d a m b a e) (R : Runs d a m b) (h : RotR d d1 a m e) (hb : b ≤ d.size) (hm : m = a + 1) (hx : e < b → lexB d[a]! d[e]! = true) :
    PermIn a b d d1 ∧ SortedIn lexB a b d1 := by
  have L := c.low R h
  have H := c.high R h
  have h2 := c.c2
  have h3 := c.c3
  refine merge_done c R h hb (permIn_refl _ _ _) (L.one (Or.inl (Nat.le_refl _))) (permIn_refl _ _ _) fun i j hi hij hj => ?_
  by_cases ci : i < e
  · rw [h.hi (t := i) hi ci h2 h3, h.out (t := j) (by omega), show i - (e - m) = a by omega]
    exact lexB_asymm (lex_chain (lexB_swo.irrefl _) (hx (by omega)) (sorted_lt R.right e j h3 (by omega) hj))
  · exact H.right i j (by omega) hij hj

/-- The right run has one element: it is laid ahead of those of the left run that are greater. -/
theorem merge_right1 {d d1 : Array (Nat × Nat)} {a m b s : Nat} (c : Cut d a m b s b) (R : Runs d a m b) (h : RotR d d1 s m b) (hb : b ≤ d.size) (hm : b = m + 1) (hy : a < s → lexB d[s - 1]! d[m]! = true) :
    PermIn a b d d1 ∧ SortedIn lexB a b d1 := by
  have L := c.low R h
  have H := c.high R h
  have h2 := c.c2
  have h3 := c.c3
  refine merge_done c R h hb (permIn_refl _ _ _) (fun i j hi hij hj => ?_) (permIn_refl _ _ _) (H.one (Or.inr (Nat.le_refl _)))
  by_cases cj : j < s
  · exact L.left i j hi hij cj
  · rw [h.out (t := i) (by omega), h.lo (t := j) (by omega) hj h2 h3, show j + (m - s) = m by omega]
    exact lexB_asymm (lex_chain (sorted_lt R.left i (s - 1) hi (by omega) (by omega)) (hy (by omega)) (lexB_swo.irrefl _))
end Go.Proofs.YbulkbyweFmt
