import Derived.Test.YbulkbyzyCountPlain
namespace Go.Proofs.Ybulkbyzy
open Go.RowKit

theorem eqSelf_fields {P : Program} (w : World) (d : Nat) (xs : Array Value) (fs : List Field)
    (h : ∀ f ∈ fs, ∃ v, (part f.type xs f.offset).run P w = .ok v w ∧ (Op.equalIn d f.type v v).run P w = .ok true w) :
    (Op.eqFields d xs xs fs).run P w = .ok true w := by
  induction fs with
  | nil => simp [Op.eqFields]
  | cons f fs ih =>
    obtain ⟨v, h1, h2⟩ := h f (by simp)
    have ih' := ih (fun g hg => h g (by simp [hg]))
    simp only [Op.eqFields, Sem.run_ite, Sem.run_bind, h1, h2, Result.andThen_ok, Bool.not_true, Bool.false_eq_true, if_false, ih', ite_self]

theorem eqSelf_struct {P : Program} (w : World) (d : Nat) (t : TypeId) (xs : Array Value) (L : List (TypeId × Nat)) (ht : P.underlying t = some (.struct (P.fieldsOf t))) (hp : P.stoodInHeld t = false)
    (hL : (P.fieldsOf t).toList.map (fun f => (f.type, f.offset)) = L)
    (h : ∀ p ∈ L, ∃ v, (part p.1 xs p.2).run P w = .ok v w ∧ (Op.equalIn d p.1 v v).run P w = .ok true w) :
    (Op.equalIn (d + 1) t (.agg xs) (.agg xs)).run P w = .ok true w := by
  rw [run_equalIn_struct w d t xs xs ht hp]
  refine eqSelf_fields w d xs _ fun f hf => ?_
  have hm : (f.type, f.offset) ∈ L := by rw [← hL]; exact List.mem_map.2 ⟨f, hf, rfl⟩
  exact h _ hm

theorem part_cell (w : World) (t : TypeId) (xs : Array Value) (o : Nat) (v : Value) (ht : ∀ W, (isAgg t).run Yba.prog W = .ok false W) (h : xs[o]? = some v) : (part t xs o).run Yba.prog w = .ok v w := by
  simp [part, ht, h]
theorem part_agg (w : World) (t : TypeId) (xs : Array Value) (o s : Nat) (ht : ∀ W, (isAgg t).run Yba.prog W = .ok true W) (hs : ∀ W, (sizeOf t).run Yba.prog W = .ok s W) : (part t xs o).run Yba.prog w = .ok (.agg (xs.extract o (o + s))) w := by
  simp [part, ht, hs]

def IntsAt (k : IntKind) (xs : Array Value) (o n : Nat) : Prop := ∀ j, j < n → ∃ a, xs[o + j]? = some (.int k a)
theorem IntsAt.cut {k : IntKind} {xs : Array Value} {o n : Nat} (h : IntsAt k xs o n) (p s : Nat) (hp : p + s ≤ n) : IntsAt k (xs.extract (o + p) (o + p + s)) 0 s := by
  intro j hj
  obtain ⟨a, ha⟩ := h (p + j) (by omega)
  refine ⟨a, ?_⟩
  rw [Nat.zero_add, Array.getElem?_extract]
  have hlt : o + (p + j) < xs.size := (Array.getElem?_eq_some_iff.1 ha).1
  rw [if_pos (by omega), show o + p + j = o + (p + j) from by omega]
  exact ha

theorem ag24 (W : World) : (isAgg 24).run Yba.prog W = .ok false W := by kernel_rfl
theorem ag25 (W : World) : (isAgg 25).run Yba.prog W = .ok false W := by kernel_rfl
theorem ag3 (W : World) : (isAgg 3).run Yba.prog W = .ok false W := by kernel_rfl
theorem sz3 (W : World) : (sizeOf 3).run Yba.prog W = .ok 1 W := by kernel_rfl

theorem eq27 (w : World) (d : Nat) (xs : Array Value) (h : IntsAt .i8 xs 0 2) : (Op.equalIn (d + 2) 27 (.agg xs) (.agg xs)).run Yba.prog w = .ok true w := by
  refine eqSelf_struct w (d + 1) 27 xs [(24, 0), (25, 1)] (by kernel_rfl) (by kernel_rfl) (by kernel_rfl) fun p hp => ?_
  simp only [List.mem_cons, List.not_mem_nil, or_false] at hp
  rcases hp with rfl | rfl
  · obtain ⟨a, ha⟩ := h 0 (by omega)
    exact ⟨_, part_cell w 24 xs 0 _ ag24 ha, by rw [run_equalIn_int w d 24 .i8 .i8 a a Yba.underlying24]; simp⟩
  · obtain ⟨a, ha⟩ := h 1 (by omega)
    exact ⟨_, part_cell w 25 xs 1 _ ag25 ha, by rw [run_equalIn_int w d 25 .i8 .i8 a a Yba.underlying25]; simp⟩

theorem eq28 (w : World) (d : Nat) (xs : Array Value) (h : IntsAt .i8 xs 0 18) : (Op.equalIn (d + 3) 28 (.agg xs) (.agg xs)).run Yba.prog w = .ok true w :=
  eqSelf_array w (d + 2) 28 27 9 2 Yba.underlying28 size27 xs (fun i => .agg (xs.extract (i * 2) (i * 2 + 2))) (fun i _ => part_agg w 27 xs (i * 2) 2 agg27 size27)
    (fun i hi => eq27 w d _ (by have := h.cut (i * 2) 2 (by omega); simpa using this))

theorem eq29 (w : World) (d : Nat) (xs : Array Value) (h : IntsAt .i8 xs 0 162) : (Op.equalIn (d + 4) 29 (.agg xs) (.agg xs)).run Yba.prog w = .ok true w :=
  eqSelf_array w (d + 3) 29 28 9 18 Yba.underlying29 size28 xs (fun i => .agg (xs.extract (i * 18) (i * 18 + 18))) (fun i _ => part_agg w 28 xs (i * 18) 18 agg28 size28)
    (fun i hi => eq28 w d _ (by have := h.cut (i * 18) 18 (by omega); simpa using this))

theorem ag30 (W : World) : (isAgg 30).run Yba.prog W = .ok true W := by kernel_rfl
theorem sz30 (W : World) : (sizeOf 30).run Yba.prog W = .ok 8 W := by kernel_rfl
theorem ag31 (W : World) : (isAgg 31).run Yba.prog W = .ok true W := by kernel_rfl
theorem sz31 (W : World) : (sizeOf 31).run Yba.prog W = .ok 16 W := by kernel_rfl

theorem eq30 (w : World) (d : Nat) (xs : Array Value) (h : IntsAt .i64 xs 0 8) : (Op.equalIn (d + 2) 30 (.agg xs) (.agg xs)).run Yba.prog w = .ok true w := by
  refine eqSelf_array w (d + 1) 30 3 8 1 Yba.underlying30 sz3 xs (fun i => xs.getD i undef) (fun i hi => ?_) (fun i hi => ?_)
  · obtain ⟨a, ha⟩ := h i hi
    rw [Nat.zero_add] at ha
    refine part_cell w 3 xs (i * 1) _ ag3 ?_
    rw [Nat.mul_one, ha]; simp [ha]
  · obtain ⟨a, ha⟩ := h i hi
    rw [Nat.zero_add] at ha
    have e : xs.getD i undef = .int .i64 a := by simp [ha]
    rw [e, run_equalIn_int w d 3 .i64 .i64 a a Yba.underlying3]; simp

theorem eq31 (w : World) (d : Nat) (xs : Array Value) (h : IntsAt .i64 xs 0 16) : (Op.equalIn (d + 3) 31 (.agg xs) (.agg xs)).run Yba.prog w = .ok true w :=
  eqSelf_array w (d + 2) 31 30 2 8 Yba.underlying31 sz30 xs (fun i => .agg (xs.extract (i * 8) (i * 8 + 8))) (fun i _ => part_agg w 30 xs (i * 8) 8 ag30 sz30)
    (fun i hi => eq30 w d _ (by have := h.cut (i * 8) 8 (by omega); simpa using this))

theorem enc_ints (bd : List (Int × Int)) (j : Nat) (hj : j < 2 * bd.length) : ∃ a, (enc bd)[j]? = some (.int .i8 a) := by
  induction bd generalizing j with
  | nil => simp at hj
  | cons p t ih =>
    match j with
    | 0 => exact ⟨p.1, rfl⟩
    | 1 => exact ⟨p.2, rfl⟩
    | j + 2 =>
      obtain ⟨a, ha⟩ := ih j (by simp at hj; omega)
      exact ⟨a, ha⟩

theorem eqPos (w : World) (bd : List (Int × Int)) (tm : Int) (hl : bd.length = 81) :
    (Op.equalIn 10000 33 (.agg (enc bd ++ restOf tm).toArray) (.agg (enc bd ++ restOf tm).toArray)).run Yba.prog w = .ok true w := by
  have e : (enc bd).length = 162 := by rw [enc_length, hl]
  have hb : IntsAt .i8 (enc bd ++ restOf tm).toArray 0 162 := by
    intro j hj
    obtain ⟨a, ha⟩ := enc_ints bd j (by omega)
    refine ⟨a, ?_⟩
    rw [Nat.zero_add]
    simp [List.getElem?_append_left (show j < (enc bd).length by omega), ha]
  have hh : IntsAt .i64 (enc bd ++ restOf tm).toArray 162 16 := by
    intro j hj
    refine ⟨0, ?_⟩
    simp only [List.getElem?_toArray]
    rw [List.getElem?_append_right (by omega), e, show 162 + j - 162 = j from by omega]
    unfold restOf
    rw [List.getElem?_append_left (by simpa using hj), List.getElem?_replicate, if_pos hj]
  refine eqSelf_struct w 9999 33 _ [(29, 0), (31, 162), (25, 178)] (by kernel_rfl) (by kernel_rfl) (by kernel_rfl) fun p hp => ?_
  simp only [List.mem_cons, List.not_mem_nil, or_false] at hp
  rcases hp with rfl | rfl | rfl
  · exact ⟨_, part_agg w 29 _ 0 162 agg29 size29, eq29 w 9995 _ (by have := hb.cut 0 162 (by omega); simpa using this)⟩
  · exact ⟨_, part_agg w 31 _ 162 16 ag31 sz31, eq31 w 9996 _ (by have := hh.cut 0 16 (by omega); simpa using this)⟩
  · refine ⟨.int .i8 tm, part_cell w 25 _ 178 _ ag25 ?_, by rw [run_equalIn_int w 9998 25 .i8 .i8 tm tm Yba.underlying25]; simp⟩
    simp only [List.getElem?_toArray]
    rw [List.getElem?_append_right (by omega), e]
    rfl
end Go.Proofs.Ybulkbyzy
