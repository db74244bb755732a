import Derived.Test.YbulkbyweFmtStabP
namespace Go.Proofs.YbulkbyweFmt
open Go.Shelf Go.RowKit Go.Lib Go.Sort Go.Proofs

/-- What index gathers: the problems (missing or duplicate; the line), the kept indices, their places. -/
structure Sc where
  pr : List (Bool × Nat)
  ks : List Nat
  qs : List Nat

/-- The highest place so far. -/
def Sc.last (s : Sc) : Nat := s.qs.getLastD 0

/-- One event. -/
def Sc.step (sk : Bool) (s : Sc) (e : Nat × Nat) : Sc :=
  if e.1 = s.last then { s with pr := s.pr ++ [(false, e.2 + 1)] }
  else { pr := if s.last + 1 < e.1 ∧ sk = false then s.pr ++ [(true, e.2 + 1)] else s.pr, ks := s.ks ++ [e.2], qs := s.qs ++ [e.1] }

def Sc.run (sk : Bool) (es : List (Nat × Nat)) : Sc := es.foldl (Sc.step sk) ⟨[], [], []⟩

/-- The events in the order of their blocks. -/
def evs (ps : Nat → Nat) (n : Nat) : Array (Nat × Nat) := Array.ofFn (n := n) fun i => (ps i, i.val)

theorem evs_size (ps : Nat → Nat) (n : Nat) : (evs ps n).size = n := by simp [evs]
theorem evs_get (ps : Nat → Nat) (n i : Nat) (h : i < n) : (evs ps n)[i]! = (ps i, i) := by
  simp [evs, getElem!_pos, h]

theorem evs_idx (ps : Nat → Nat) (n : Nat) : ∀ t, t < (evs ps n).size → ((evs ps n)[t]!).2 = t := fun t ht => by
  rw [evs_size] at ht; rw [evs_get _ _ _ ht]

/-- .. sorted by place, then by index. -/
def srt (ps : Nat → Nat) (n : Nat) : List (Nat × Nat) := (evs ps n).toList.mergeSort (fun x y => !lexB y x)

theorem lexB_total {x y : Nat × Nat} (h1 : lexB x y = false) (h2 : lexB y x = false) : x = y := by
  simp only [lexB, decide_eq_false_iff_not] at h1 h2
  exact Prod.ext (by omega) (by omega)

theorem srt_of (ps : Nat → Nat) (n : Nat) (d : Array (Nat × Nat)) (hp : PermIn 0 n (evs ps n) d) (hs : SortedIn lexB 0 n d) : d.toList = srt ps n :=
  sorted_unique_holds lexB_swo (fun _ _ => lexB_total) (evs ps n) d (by rw [evs_size]; exact hp) (by rw [evs_size]; exact hs)

theorem srt_perm (ps : Nat → Nat) (n : Nat) : (srt ps n).Perm (evs ps n).toList := List.mergeSort_perm _ _
theorem srt_len (ps : Nat → Nat) (n : Nat) : (srt ps n).length = n := by rw [(srt_perm ps n).length_eq]; simp [evs]

theorem run_snoc (sk : Bool) (es : List (Nat × Nat)) (i : Nat) (h : i < es.length) : Sc.run sk (es.take (i + 1)) = Sc.step sk (Sc.run sk (es.take i)) es[i] := by
  rw [List.take_succ_eq_append_getElem h, Sc.run, List.foldl_append]; rfl

theorem step_last (sk : Bool) (s : Sc) (e : Nat × Nat) : (Sc.step sk s e).last = e.1 := by
  unfold Sc.step
  split
  · rename_i h; exact h.symm
  · simp [Sc.last]

/-- The places ascend. -/
theorem srt_mono (ps : Nat → Nat) (n i j : Nat) (hij : i < j) (hj : j < (srt ps n).length) : ((srt ps n)[i]'(by omega)).1 ≤ ((srt ps n)[j]).1 := by
  have h : (srt ps n).Pairwise (fun x y => (!lexB y x) = true) := List.pairwise_mergeSort
    (fun a b c h1 h2 => by simp only [lexB, Bool.not_eq_true', decide_eq_false_iff_not] at *; omega)
    (fun a b => by simp only [lexB, Bool.or_eq_true, Bool.not_eq_true', decide_eq_false_iff_not]; omega) _
  have := List.pairwise_iff_getElem.1 h i j (by omega) hj hij
  simp only [lexB, Bool.not_eq_true', decide_eq_false_iff_not] at this
  omega

theorem run_last (sk : Bool) (ps : Nat → Nat) (n i : Nat) (hi : i < (srt ps n).length) : (Sc.run sk ((srt ps n).take i)).last ≤ ((srt ps n)[i]).1 := by
  cases i with
  | zero => exact Nat.zero_le _
  | succ k =>
    rw [run_snoc sk _ k (by omega), step_last]
    exact srt_mono ps n k (k + 1) (by omega) hi

theorem run_qs (sk : Bool) : ∀ es : List (Nat × Nat), (Sc.run sk es).qs.length = (Sc.run sk es).ks.length ∧ (Sc.run sk es).ks.Sublist (es.map (·.2)) ∧ (Sc.run sk es).pr.length ≤ es.length ∧ (Sc.run sk es).qs.Sublist (es.map (·.1)) := by
  intro es
  suffices H : ∀ (es : List (Nat × Nat)) (s : Sc), (List.foldl (Sc.step sk) s es).qs.length + s.ks.length = (List.foldl (Sc.step sk) s es).ks.length + s.qs.length ∧ (List.foldl (Sc.step sk) s es).ks.Sublist (s.ks ++ es.map (·.2)) ∧ (List.foldl (Sc.step sk) s es).pr.length ≤ s.pr.length + es.length ∧ (List.foldl (Sc.step sk) s es).qs.Sublist (s.qs ++ es.map (·.1)) by
    have := H es ⟨[], [], []⟩
    simpa [Sc.run] using this
  intro es
  induction es with
  | nil => intro s; simp; omega
  | cons e r ih =>
    intro s
    have h := ih (Sc.step sk s e)
    rw [List.foldl_cons]
    by_cases c : e.1 = s.last
    · have e1 : Sc.step sk s e = { s with pr := s.pr ++ [(false, e.2 + 1)] } := by unfold Sc.step; rw [if_pos c]
      rw [e1] at h ⊢
      refine ⟨h.1, h.2.1.trans ?_, by have := h.2.2.1; simp at this ⊢; omega, h.2.2.2.trans ?_⟩
      · exact List.Sublist.append_left (by simp) _
      · exact List.Sublist.append_left (by simp) _
    · have e1 : (Sc.step sk s e).ks = s.ks ++ [e.2] ∧ (Sc.step sk s e).qs = s.qs ++ [e.1] ∧ (Sc.step sk s e).pr.length ≤ s.pr.length + 1 := by
        unfold Sc.step; rw [if_neg c]; refine ⟨rfl, rfl, ?_⟩; simp only; split <;> simp
      refine ⟨?_, ?_, ?_, ?_⟩
      · have := h.1; rw [e1.1, e1.2.1] at this; simp at this; omega
      · have := h.2.1; rw [e1.1] at this; simpa using this
      · have := h.2.2.1; simp; omega
      · have := h.2.2.2; rw [e1.2.1] at this; simpa using this

theorem srt_idx (ps : Nat → Nat) (n : Nat) : ((srt ps n).map (·.2)).Perm (List.range n) := by
  have h := (srt_perm ps n).map (·.2)
  have e : (evs ps n).toList.map (·.2) = List.range n := by
    apply List.ext_getElem
    · simp [evs]
    · intro i h1 h2
      simp [evs]
  rw [e] at h
  exact h

/-- A list of n different numbers below n that ascends is 0, 1, .., n - 1. -/
theorem asc_range : ∀ (n : Nat) (l : List Nat), l.length = n → l.Nodup → (∀ x ∈ l, x < n) → (∀ i (h : i + 1 < l.length), l[i]'(by omega) ≤ l[i + 1]) → ∀ i (h : i < l.length), l[i] = i := by
  intro n l hl hd hb ha
  have lt : ∀ i (h : i + 1 < l.length), l[i]'(by omega) < l[i + 1] := fun i h => by
    have h1 := ha i h
    have h2 : l[i]'(by omega) ≠ l[i + 1] := List.pairwise_iff_getElem.1 hd i (i + 1) (by omega) h (by omega)
    omega
  have ge : ∀ i (h : i < l.length), i ≤ l[i] := by
    intro i
    induction i with
    | zero => intro h; omega
    | succ k ih => intro h; have := ih (by omega); have := lt k h; omega
  have up : ∀ k i (h : i < l.length), l.length - 1 - i = k → l[i] + k < n := by
    intro k
    induction k with
    | zero => intro i h hk; exact hb _ (List.getElem_mem h)
    | succ k ih =>
      intro i h hk
      have := ih (i + 1) (by omega) (by omega)
      have := lt i (by omega)
      omega
  intro i h
  have := ge i h
  have := up _ i h rfl
  omega

theorem kept_full (sk : Bool) (ps : Nat → Nat) (n : Nat) : (¬ ((Sc.run sk (srt ps n)).ks.length < n) ∧ ∀ i (h : i + 1 < (Sc.run sk (srt ps n)).ks.length), (Sc.run sk (srt ps n)).ks[i]'(by omega) ≤ (Sc.run sk (srt ps n)).ks[i + 1]) ↔
    ((Sc.run sk (srt ps n)).ks.length = n ∧ ∀ i (h : i < (Sc.run sk (srt ps n)).ks.length), (Sc.run sk (srt ps n)).ks[i] = i) := by
  have hs := (run_qs sk (srt ps n)).2.1
  have hi := srt_idx ps n
  have hlen : (Sc.run sk (srt ps n)).ks.length ≤ n := by
    have := hs.length_le; rw [hi.length_eq] at this; simpa using this
  have hnd : (Sc.run sk (srt ps n)).ks.Nodup := hs.nodup (hi.nodup_iff.2 List.nodup_range)
  have hb : ∀ x ∈ (Sc.run sk (srt ps n)).ks, x < n := fun x hx => by
    have := hi.mem_iff.1 (hs.subset hx); simpa using this
  constructor
  · rintro ⟨h1, h2⟩
    have e : (Sc.run sk (srt ps n)).ks.length = n := by omega
    exact ⟨e, asc_range n _ e hnd hb h2⟩
  · rintro ⟨h1, h2⟩
    refine ⟨by omega, fun i h => ?_⟩
    rw [h2 i (by omega), h2 (i + 1) h]; omega
end Go.Proofs.YbulkbyweFmt
