import Derived.Test.YbulkbyzyPiece
namespace Go.Proofs.Ybulkbyzy
open Go.RowKit

/-- The board behind k rounds of the law's first loop. -/
def bdk (zs : List Int) : Nat → List (Int × Int)
  | 0 => bare
  | k + 1 => (bdk zs k).set k (pc (zs.getD k 0))

theorem bdk_length (zs : List Int) (k : Nat) : (bdk zs k).length = 81 := by
  induction k with
  | zero => simp [bdk, bare]
  | succ k ih => simp [bdk, ih]

theorem bdk_at (zs : List Int) (k j : Nat) (hk : k ≤ 81) : (bdk zs k).getD j (0, 0) = if j < k then pc (zs.getD j 0) else (0, 0) := by
  induction k with
  | zero =>
    simp only [bdk, bare, List.getD_eq_getElem?_getD, List.getElem?_replicate]
    split <;> simp
  | succ k ih =>
    have hl := bdk_length zs k
    simp only [bdk, List.getD_eq_getElem?_getD] at ih ⊢
    by_cases h : k = j
    · subst h
      rw [List.getElem?_set_self (by omega), if_pos (by omega)]; rfl
    · rw [List.getElem?_set_ne h, ih (by omega)]
      by_cases h2 : j < k
      · rw [if_pos h2, if_pos (by omega)]
      · rw [if_neg h2, if_neg (by omega)]

/-- What the law's own loops reckon over the first i cells. -/
def kz (zs : List Int) (c : Int) : Nat → Int × Int × Int
  | 0 => (0, 0, 0)
  | i + 1 => if pc (zs.getD i 0) = (8, c) then (((i % 9 : Nat) : Int) + 1, ((i / 9 : Nat) : Int) + 1, (kz zs c i).2.2 + 1) else kz zs c i

theorem kst_kz (zs : List Int) (c : Int) (n i : Nat) (hn : n ≤ 81) : kst (bdk zs n) c i = kz zs c (min i n) := by
  induction i with
  | zero => simp [kst, kz]
  | succ i ih =>
    rw [kst, bdk_at zs n i hn, ih]
    by_cases h : i < n
    · rw [if_pos h, show min (i + 1) n = i + 1 from by omega, show min i n = i from by omega, kz]
    · rw [if_neg h, show min (i + 1) n = min i n from by omega, if_neg (by simp)]

theorem kst_n (zs : List Int) (c : Int) (n : Nat) (hn : n ≤ 81) : kst (bdk zs n) c 81 = kz zs c n := by
  rw [kst_kz zs c n 81 hn, show min 81 n = n from by omega]

theorem kz_bd (zs : List Int) (c : Int) (i : Nat) : 0 ≤ (kz zs c i).2.2 ∧ (kz zs c i).2.2 ≤ i := by
  induction i with
  | zero => exact ⟨Int.le_refl _, Int.le_refl _⟩
  | succ i ih =>
    unfold kz
    split
    · show 0 ≤ (kz zs c i).2.2 + 1 ∧ (kz zs c i).2.2 + 1 ≤ ((i + 1 : Nat) : Int); omega
    · omega

theorem posStep {wr : World} {B : Nat} {bd : List (Int × Int)} {rest : List Value} {k q r : Nat} {p1 p2 : Int} {O : Obj} (h : PosAt wr B bd rest) (e : k = q * 9 + r) (hk : k < bd.length) :
    PosAt (((wr.setCell ⟨B, q * 18 + r * 2, none⟩ (.int .i8 p1)).setCell ⟨B, q * 18 + r * 2 + 1, none⟩ (.int .i8 p2)).alloc O).drew B (bd.set k (p1, p2)) rest := by
  have hs := h.set2 k p1 p2 hk
  rw [e, show 2 * (q * 9 + r) = q * 18 + r * 2 from by omega, ← e] at hs
  have hb : B < wr.heap.size := (Array.getElem?_eq_some_iff.1 h).1
  unfold PosAt
  rw [heap_drew, Below.heap_alloc _ _ _ (by simpa using hb)]
  exact hs

theorem PosAt.size {w : World} {b : Nat} {bd : List (Int × Int)} {rest : List Value} (h : PosAt w b bd rest) : b < w.heap.size := (Array.getElem?_eq_some_iff.1 h).1

theorem PosAt.kept {w w' : World} {b B : Nat} {bd : List (Int × Int)} {rest : List Value} (h : PosAt w b bd rest) (hb : Below B w w') (hB : b < B) : PosAt w' b bd rest := by
  unfold PosAt; rw [hb.block b hB]; exact h

theorem info33 : (Yba.prog.info? 33).map (·.size) = some 179 := by kernel_rfl

theorem pos_size (bd : List (Int × Int)) (tm : Int) (hl : bd.length = 81) : (enc bd ++ restOf tm).toArray.size = 179 := by
  simp [enc_length, hl, restOf]

theorem PosAt.last {w : World} {b : Nat} {bd : List (Int × Int)} {tm : Int} (h : PosAt w b bd (restOf tm)) (hl : bd.length = 81) : w.cell? ⟨b, 178, none⟩ = some (.int .i8 tm) := by
  rw [cell_of_row w b 178 _ 33 (0, 0) h]
  have e : (enc bd).length = 162 := by rw [enc_length, hl]
  simp [e, restOf]

theorem PosAt.setLast {w : World} {b : Nat} {bd : List (Int × Int)} {tm t2 : Int} (h : PosAt w b bd (restOf tm)) (hl : bd.length = 81) : PosAt (w.setCell ⟨b, 178, none⟩ (.int .i8 t2)) b bd (restOf t2) := by
  have h1 := heap_setCell_same w b 178 _ 33 (.int .i8 t2) h
  unfold PosAt
  rw [h1]
  congr 2
  apply Array.toList_inj.1
  have e : (enc bd).length = 162 := by rw [enc_length, hl]
  rw [Array.toList_setIfInBounds]
  show (enc bd ++ restOf tm).set 178 _ = enc bd ++ restOf t2
  rw [List.set_append_right _ _ (by omega), e]
  rfl

theorem PosAt.load {w : World} {b : Nat} {bd : List (Int × Int)} {tm : Int} (h : PosAt w b bd (restOf tm)) (hl : bd.length = 81) : (loadVar 33 ⟨b, 0, none⟩).run Yba.prog w = .ok (.agg (enc bd ++ restOf tm).toArray) w :=
  run_loadVar_row w b 33 33 _ (0, 0) _ h Yba.underlying33 rfl (by rw [info33, pos_size bd tm hl])

theorem setRow_alloc (w : World) (old new : Array Value) (t : TypeId) : (w.alloc (.cells old t)).setRow w.heap.size new = w.alloc (.cells new t) := by
  unfold World.setRow World.alloc
  congr 1
  apply Array.ext
  · simp
  · intro k h1 h2
    simp only [Array.getElem_modify, Array.getElem_push]
    by_cases hk : k < w.heap.size
    · rw [if_neg (by omega)]; simp only [hk, dif_pos]
    · have hk2 : w.heap.size = k := by simp at h2; omega
      rw [if_pos hk2]; simp only [hk, dif_neg, not_false_iff]

theorem rest_ones (tm : Int) : ∀ v ∈ restOf tm, v.oneCell' = true := by
  intro v hv
  simp only [restOf, List.mem_append, List.mem_replicate, List.mem_singleton] at hv
  rcases hv with ⟨_, rfl⟩ | rfl <;> rfl

/-- The position stored whole into its new variable. -/
theorem store_pos (w : World) (old : Array Value) (bd : List (Int × Int)) (tm : Int) (hl : bd.length = 81) (ho : old.size = 179) :
    (storeVar 33 ⟨w.heap.size, 0, none⟩ (.agg (enc bd ++ restOf tm).toArray)).run Yba.prog (w.alloc (.cells old 33)) = .ok () (w.alloc (.cells (enc bd ++ restOf tm).toArray 33)) := by
  have e := pos_size bd tm hl
  rw [run_storeVar_row (P := Yba.prog) (w.alloc (.cells old 33)) w.heap.size 33 33 old _ (heap_alloc_new _ _) (by rw [info33, e]) (by omega) (by
    rw [Array.all_eq_true_iff_forall_mem]; intro v hv
    have : v ∈ enc bd ++ restOf tm := by simpa using hv
    rcases List.mem_append.1 this with h | h
    · exact enc_ones bd v h
    · exact rest_ones tm v h), setRow_alloc]

/-- '==' of an array's value with itself. -/
theorem eqSelf_array {P : Program} (w : World) (d : Nat) (t e : TypeId) (n s : Nat) (ht : P.underlying t = some (.array n e)) (hsz : ∀ w, (sizeOf e).run P w = .ok s w) (xs : Array Value) (v : Nat → Value)
    (hp : ∀ i, i < n → (part e xs (i * s)).run P w = .ok (v i) w) (he : ∀ i, i < n → (Op.equalIn d e (v i) (v i)).run P w = .ok true w) :
    (Op.equalIn (d + 1) t (.agg xs) (.agg xs)).run P w = .ok true w := by
  rw [Op.equalIn]
  simp only [Sem.run_bind, run_underlying ht, Result.andThen_ok, hsz, Std.Legacy.Range.forIn_eq_forIn_range', Std.Legacy.Range.size, Nat.sub_zero, Nat.add_sub_cancel, Nat.div_one]
  have hl : ∀ i ∈ List.range' 0 n 1, i < n := fun i hi => by simpa using (List.mem_range'_1.1 hi).2
  generalize List.range' 0 n 1 = l at hl ⊢
  induction l with
  | nil => simp
  | cons i l ih =>
    have hi : i < n := hl i (by simp)
    simp only [List.forIn_cons, Sem.run_bind, hp i hi, he i hi, Result.andThen_ok]
    simp only [Bool.not_true, Bool.false_eq_true, if_false, Sem.run_pure, Result.andThen_ok]
    exact ih fun j hj => hl j (by simp [hj])

end Go.Proofs.Ybulkbyzy
