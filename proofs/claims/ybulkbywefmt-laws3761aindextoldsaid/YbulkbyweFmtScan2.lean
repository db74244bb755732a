import Derived.Test.YbulkbyweFmtR3
namespace Go.Proofs.YbulkbyweFmt
open Go.Shelf Go.RowKit Go.Lib Go.Sort Go.Proofs

theorem step_dup (sk : Bool) (s : Sc) (e : Nat × Nat) (h : e.1 = s.last) : Sc.step sk s e = ⟨s.pr ++ [(false, e.2 + 1)], s.ks, s.qs⟩ := by
  simp [Sc.step, h]
theorem step_miss (sk : Bool) (s : Sc) (e : Nat × Nat) (h : e.1 ≠ s.last) (h2 : s.last + 1 < e.1) (h3 : sk = false) : Sc.step sk s e = ⟨s.pr ++ [(true, e.2 + 1)], s.ks ++ [e.2], s.qs ++ [e.1]⟩ := by
  simp [Sc.step, h, h2, h3]
theorem step_plain (sk : Bool) (s : Sc) (e : Nat × Nat) (h : e.1 ≠ s.last) (h2 : ¬ (s.last + 1 < e.1 ∧ sk = false)) : Sc.step sk s e = ⟨s.pr, s.ks ++ [e.2], s.qs ++ [e.1]⟩ := by
  simp only [Sc.step, h, h2, if_false]

/-- The two kinds. -/
def kindS (b : Bool) : Value := if b then .string ⟨#[109, 105, 115, 115, 105, 110, 103, 32, 101, 118, 101, 110, 116]⟩ else .string ⟨#[100, 117, 112, 108, 105, 99, 97, 116, 101, 32, 101, 118, 101, 110, 116]⟩

/-- The model's problems. -/
def pcM (l : List (Bool × Nat)) : List Value := l.flatMap fun x => [kindS x.1, .int .i64 (x.2 : Int)]

theorem pcM_snoc (l : List (Bool × Nat)) (x : Bool × Nat) : pcM (l ++ [x]) = pcM l ++ [kindS x.1, .int .i64 (x.2 : Int)] := by simp [pcM]

/-- All kept, in order, as far as i. -/
def fulB (ks : List Nat) (n i : Nat) : Bool := (ks.length == n) && (List.range i).all (fun j => ks.getD j 0 == j)

theorem fulB_succ (ks : List Nat) (n i : Nat) : fulB ks n (i + 1) = (fulB ks n i && (ks.getD i 0 == i)) := by
  simp [fulB, List.range_succ, Bool.and_assoc]

theorem fulB_all (ks : List Nat) (n : Nat) : fulB ks n ks.length = true ↔ ks = List.range n := by
  simp only [fulB, Bool.and_eq_true, beq_iff_eq, List.all_eq_true, List.mem_range]
  constructor
  · rintro ⟨h1, h2⟩
    apply List.ext_getElem
    · simpa using h1
    · intro i h3 h4
      have := h2 i h3
      rw [List.getD_eq_getElem?_getD, List.getElem?_eq_getElem h3] at this
      simpa using this
  · intro h
    have hl : ks.length = n := by rw [h]; simp
    refine ⟨hl, fun x hx => ?_⟩
    rw [List.getD_eq_getElem?_getD, List.getElem?_eq_getElem hx]
    simp [h]

theorem news2 (w : World) (a b : Value) (t : TypeId) : ∀ j u, [a, b][j]? = some u → (w.alloc (.cells #[a, b] t)).cell? ((⟨w.heap.size, 0, none⟩ : Addr).add j) = some u := by
  intro j u hj
  match j, hj with
  | 0, hj => simp at hj; subst hj; simp [Addr.add]
  | 1, hj => simp at hj; subst hj; simp [Addr.add]

theorem news1 (w : World) (a : Value) (t : TypeId) : ∀ j u, [a][j]? = some u → (w.alloc (.cells #[a] t)).cell? ((⟨w.heap.size, 0, none⟩ : Addr).add j) = some u := by
  intro j u hj
  match j, hj with
  | 0, hj => simp at hj; subst hj; simp [Addr.add]

theorem srt_mem (ps : Nat → Nat) (n i : Nat) (hi : i < (srt ps n).length) : ∃ j, j < n ∧ (srt ps n)[i] = (ps j, j) := by
  have h1 := (srt_perm ps n).mem_iff.1 (List.getElem_mem hi)
  rw [Array.mem_toList_iff, evs, Array.mem_ofFn] at h1
  obtain ⟨j, hj⟩ := h1
  exact ⟨j.val, j.isLt, hj.symm⟩

/-- The last place. -/
theorem last_eq (s : Sc) : (s.qs = [] → s.last = 0) ∧ (s.qs ≠ [] → s.qs[s.qs.length - 1]? = some s.last) := by
  constructor
  · intro h; simp [Sc.last, h]
  · intro h
    have hl : 0 < s.qs.length := List.length_pos_iff.2 h
    rw [List.getElem?_eq_getElem (by omega)]
    simp only [Sc.last, List.getLastD_eq_getLast?, List.getLast?_eq_getElem?]
    rw [List.getElem?_eq_getElem (by omega)]
    rfl

/-- The scan as far as the i-th of the sorted events. -/
def scn (sk : Bool) (ps : Nat → Nat) (n i : Nat) : Sc := Sc.run sk ((srt ps n).take i)

theorem scn_len (sk : Bool) (ps : Nat → Nat) (n i : Nat) : (scn sk ps n i).pr.length ≤ i ∧ (scn sk ps n i).ks.length ≤ i ∧ (scn sk ps n i).qs.length ≤ i := by
  have h := run_qs sk ((srt ps n).take i)
  have h1 : ((srt ps n).take i).length ≤ i := List.length_take_le ..
  have h2 := h.2.1.length_le
  have h3 := h.2.2.2.length_le
  simp only [List.length_map] at h2 h3
  exact ⟨Nat.le_trans h.2.2.1 h1, Nat.le_trans h2 h1, Nat.le_trans h3 h1⟩

/-- What one round of the scan meets. -/
theorem scn_step (sk : Bool) (ps : Nat → Nat) (n i : Nat) (hi : i < n) : ∃ x1 x2, (srt ps n)[i]'(by rw [srt_len]; exact hi) = (x1, x2) ∧ x2 < n ∧ x1 = ps x2 ∧ (scn sk ps n i).last ≤ x1 ∧ scn sk ps n (i + 1) = Sc.step sk (scn sk ps n i) (x1, x2) := by
  have hl : i < (srt ps n).length := by rw [srt_len]; exact hi
  obtain ⟨j, hj, he⟩ := srt_mem ps n i hl
  refine ⟨ps j, j, he, hj, rfl, ?_, ?_⟩
  · have := run_last sk ps n i hl
    rw [he] at this
    exact this
  · have := run_snoc sk (srt ps n) i hl
    rw [he] at this
    exact this
end Go.Proofs.YbulkbyweFmt
