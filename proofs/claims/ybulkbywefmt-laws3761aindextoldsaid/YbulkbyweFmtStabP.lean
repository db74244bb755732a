import Derived.Test.YbulkbyweFmtSymP
namespace Go.Proofs.YbulkbyweFmt
open Go.Shelf Go.RowKit Go.Lib Go.Sort Go.Proofs

theorem ltOf_lexB {x y : Nat × Nat} (h : y.2 < x.2) : ltOf cmpP x y = lexB x y := by
  have := cmpP_lt h
  unfold ltOf
  cases hb : lexB x y
  · rw [hb] at this; simp at this ⊢; omega
  · rw [hb] at this; simp at this ⊢; omega

theorem insInner_lex (a : Nat) : ∀ (j : Nat) (d : Array (Nat × Nat)), j < d.size → (∀ p, a ≤ p → p < j → (d[p]!).2 < (d[j]!).2) → insInner (ltOf cmpP) a j d = insInner lexB a j d
  | 0, d, _, _ => by rw [insInner, insInner]
  | j + 1, d, hz, hp => by
    rw [insInner, insInner]
    by_cases c : j + 1 > a
    · rw [ltOf_lexB (hp j (by omega) (by omega))]
      split
      · refine insInner_lex a j _ (by rw [size_swp]; omega) fun p h1 h2 => ?_
        rw [swp_other _ _ _ p (by omega) (by omega), swp_right _ _ _ (by omega)]
        exact hp p h1 (by omega)
      · rfl
    · simp [c]

theorem insOuter_lex (a b : Nat) : ∀ (n i : Nat) (d : Array (Nat × Nat)), b - i = n → a < i → b ≤ d.size → SortedIn lexB a i d → (∀ p t, a ≤ p → p < t → i ≤ t → t < b → (d[p]!).2 < (d[t]!).2) →
    insOuter (ltOf cmpP) a b i d = insOuter lexB a b i d
  | 0, i, d, hn, _, _, _, _ => by
    conv => lhs; rw [insOuter, if_neg (by omega)]
    conv => rhs; rw [insOuter, if_neg (by omega)]
  | n + 1, i, d, hn, hai, hb, hs, hp => by
    have hlt : i < b := by omega
    conv => lhs; rw [insOuter, if_pos hlt]
    conv => rhs; rw [insOuter, if_pos hlt]
    rw [insInner_lex a i d (by omega) (fun p h1 h2 => hp p i h1 h2 (Nat.le_refl _) hlt)]
    have h1 := insInner_spec lexB_swo swp_permIn permIn_refl permIn_trans a (i + 1) i (by omega) i d (by omega) (Nat.le_refl _) (by omega) ⟨fun p q hap hpq hqi _ hq => hs p q hap hpq (by omega), fun q h1 h2 => by omega⟩
    refine insOuter_lex a b n (i + 1) _ (by omega) (by omega) (by rw [h1.1.1]; exact hb) h1.2 fun p t h2 h3 h4 h5 => ?_
    rw [h1.1.2.1 t (by omega)]
    by_cases c : p < i + 1
    · exact permIn_all d _ a (i + 1) (fun x => x.2 < (d[t]!).2) (by omega) h1.1 (fun q h6 h7 => hp q t h6 (by omega) (by omega) h5) p h2 c
    · rw [h1.1.2.1 p (by omega)]; exact hp p t h2 h3 (by omega) h5

/-- The insertion sort of a block whose indices ascend. -/
theorem ins_block (d : Array (Nat × Nat)) (a b : Nat) (hab : a ≤ b) (hb : b ≤ d.size) (hp : ∀ p t, a ≤ p → p < t → t < b → (d[p]!).2 < (d[t]!).2) :
    PermIn a b d (insertionSort (ltOf cmpP) d a b) ∧ SortedIn lexB a b (insertionSort (ltOf cmpP) d a b) := by
  have e : insertionSort (ltOf cmpP) d a b = insertionSort lexB d a b := by
    unfold insertionSort
    exact insOuter_lex a b _ (a + 1) d rfl (by omega) hb (fun i j h1 h2 h3 => by omega) fun p t h1 h2 _ h4 => hp p t h1 h2 h4
  rw [e]
  exact insertionSort_holds lexB_swo d a b hab hb

/-- A sorted block that holds the indices a .. b - 1. -/
structure Good (d : Array (Nat × Nat)) (a b : Nat) : Prop where
  srt : SortedIn lexB a b d
  idx : ∀ t, a ≤ t → t < b → a ≤ (d[t]!).2 ∧ (d[t]!).2 < b

theorem Good.runs {d : Array (Nat × Nat)} {a m b : Nat} (h1 : Good d a m) (h2 : Good d m b) : Runs d a m b :=
  ⟨h1.srt, h2.srt, fun s t h3 h4 h5 h6 => by have := (h1.idx s h3 h4).2; have := (h2.idx t h5 h6).1; omega⟩

theorem Good.merged {d d' : Array (Nat × Nat)} {a m b : Nat} (h1 : Good d a m) (h2 : Good d m b) (ham : a ≤ m) (hmb : m ≤ b) (hb : b ≤ d.size) (hp : PermIn a b d d') (hs : SortedIn lexB a b d') : Good d' a b :=
  ⟨hs, permIn_all d d' a b (fun x => a ≤ x.2 ∧ x.2 < b) hb hp fun t h3 h4 => by
    by_cases c : t < m
    · have := h1.idx t h3 c; omega
    · have := h2.idx t (by omega) h4; omega⟩

theorem Good.perm {d d' : Array (Nat × Nat)} {a b p q : Nat} (h : Good d p q) (hp : PermIn a b d d') (hq : b ≤ p ∨ q ≤ a) : Good d' p q :=
  ⟨fun i j hi hij hj => by rw [hp.2.1 i (by omega), hp.2.1 j (by omega)]; exact h.srt i j hi hij hj, fun t h1 h2 => by rw [hp.2.1 t (by omega)]; exact h.idx t h1 h2⟩

/-- Blocks of z from lo to hi; the last may be shorter. -/
inductive Tiles (d : Array (Nat × Nat)) (z : Nat) : Nat → Nat → Prop
  | nil (a : Nat) : Tiles d z a a
  | last (a b : Nat) : a < b → b ≤ a + z → Good d a b → Tiles d z a b
  | cons (a b : Nat) : a + z < b → Good d a (a + z) → Tiles d z (a + z) b → Tiles d z a b

/-- Full blocks of z from 0 to a. -/
inductive Full (d : Array (Nat × Nat)) (z : Nat) : Nat → Prop
  | nil : Full d z 0
  | snoc (a : Nat) : Full d z a → Good d a (a + z) → Full d z (a + z)

theorem Tiles.le {d : Array (Nat × Nat)} {z a b : Nat} (h : Tiles d z a b) : a ≤ b := by
  induction h with
  | nil => exact Nat.le_refl _
  | last => omega
  | cons => omega

theorem Tiles.perm {d d' : Array (Nat × Nat)} {z p a b n : Nat} (h : Tiles d z p n) (hp : PermIn a b d d') (hb : b ≤ p) : Tiles d' z p n := by
  induction h with
  | nil => exact .nil _
  | last a b h1 h2 h3 => exact .last _ _ h1 h2 (h3.perm hp (Or.inl hb))
  | cons a b h1 h2 h3 ih => exact .cons _ _ h1 (h2.perm hp (Or.inl hb)) (ih (by omega))

theorem Full.perm {d d' : Array (Nat × Nat)} {z p a b : Nat} (h : Full d z p) (hp : PermIn a b d d') (hb : p ≤ a) : Full d' z p := by
  induction h with
  | nil => exact .nil
  | snoc a h1 h2 ih => exact .snoc _ (ih (by omega)) (h2.perm hp (Or.inr hb))

theorem Full.tiles {d : Array (Nat × Nat)} {z a n : Nat} (h : Full d z a) (t : Tiles d z a n) (hz : 0 < z) : Tiles d z 0 n := by
  induction h with
  | nil => exact t
  | snoc a h1 h2 ih =>
    refine ih ?_
    have := t.le
    by_cases c : a + z < n
    · exact .cons _ _ c h2 t
    · obtain rfl : a + z = n := by omega
      exact .last _ _ (by omega) (Nat.le_refl _) h2

/-- The first two blocks. -/
theorem Tiles.two {d : Array (Nat × Nat)} {z a n : Nat} (t : Tiles d z a n) (hz : 0 < z) (hn : a + z < n) : Good d a (a + z) ∧ (n ≤ a + z + z → Good d (a + z) n) ∧ (a + z + z ≤ n → Good d (a + z) (a + z + z) ∧ Tiles d z (a + z + z) n) := by
  cases t with
  | nil => omega
  | last _ _ h1 h2 h3 => omega
  | cons _ _ h1 h2 t2 =>
    refine ⟨h2, fun h => ?_, fun h => ?_⟩
    · cases t2 with
      | nil => omega
      | last _ _ h4 h5 h6 => exact h6
      | cons _ _ h4 h5 h6 => omega
    · cases t2 with
      | nil => omega
      | last _ _ h4 h5 h6 =>
        obtain rfl : n = a + z + z := by omega
        exact ⟨h6, .nil _⟩
      | cons _ _ h4 h5 h6 => exact ⟨h5, h6⟩

theorem Tiles.one {d : Array (Nat × Nat)} {z a n : Nat} (t : Tiles d z a n) (hn : n ≤ a + z) (h : a < n) : Good d a n := by
  cases t with
  | nil => omega
  | last _ _ h1 h2 h3 => exact h3
  | cons _ _ h1 h2 t2 => omega

theorem Tiles.grow {d : Array (Nat × Nat)} {z a n : Nat} (h : a ≤ n) (hn : n ≤ a + z) (g : a < n → Good d a n) : Tiles d z a n := by
  by_cases c : a < n
  · exact .last _ _ c hn (g c)
  · obtain rfl : a = n := by omega
    exact .nil _

/-- What the sort leaves, and what it begins with. -/
theorem good_block {ev d : Array (Nat × Nat)} {a b : Nat} (hab : a ≤ b) (hb : b ≤ d.size) (hi : ∀ t, t < ev.size → (ev[t]!).2 = t) (hs : d.size = ev.size) (hd : ∀ t, a ≤ t → d[t]! = ev[t]!) :
    PermIn a b d (insertionSort (ltOf cmpP) d a b) ∧ Good (insertionSort (ltOf cmpP) d a b) a b := by
  have h := ins_block d a b hab hb fun p t h1 h2 h3 => by rw [hd p h1, hd t (by omega), hi p (by omega), hi t (by omega)]; exact h2
  exact ⟨h.1, h.2, permIn_all d _ a b (fun x => a ≤ x.2 ∧ x.2 < b) hb h.1 fun t h3 h4 => by rw [hd t h3, hi t (by omega)]; omega⟩
end Go.Proofs.YbulkbyweFmt
