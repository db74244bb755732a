import Derived.Test.YbulkbyzyRows
import Derived.WalkKit
import Derived.WalkSpells
import Derived.Deep.QuietTactic
import Derived.BigQuiet
namespace Go.Proofs.Ybulkbyzy
open Go.RowKit

section
variable {P : Program} {ops : Array Oper} {rest : List Oper} {o : Oper} {a : Act} {w : World} {Q : Exit → Act → World → Prop}

/-- A load by its run. -/
theorem wpList_load_run (hgd : o.guard = none) (ty : TypeId) (x : Operand) (ho : o.op = .load ty x) (ad : Addr) (hx : a.eval x = .pointer (some ad)) (v : Value)
    (hrun : (loadVar ty ad).run P w = .ok v w) (h : wpList P ops Q rest (a.put o.dst v) w) : wpList P ops Q (o :: rest) a w :=
  wpList_plain hgd fun _ hK => by
    unfold Oper.wp execOp
    simp only [ho, hx, Instr.loadAt, Instr.sureAddr, Sem.run_bind, Sem.run_pure, Result.andThen_ok, hrun]
    exact hK _ _ h

/-- An index of an array's value by its run. -/
theorem wpList_index_run (hgd : o.guard = none) (ty : TypeId) (x i : Operand) (ho : o.op = .index ty x i) (vx vi v : Value) (hx : a.eval x = vx) (hi : a.eval i = vi)
    (hrun : (Instr.index ty vx vi).run P w = .ok v w) (h : wpList P ops Q rest (a.put o.dst v) w) : wpList P ops Q (o :: rest) a w :=
  wpList_plain hgd fun _ hK => by
    unfold Oper.wp execOp
    simp only [ho, hx, hi, Sem.run_bind, hrun, Result.andThen_ok, Sem.run_pure]
    exact hK _ _ h

/-- A store by its run. -/
theorem wpList_store_run (hgd : o.guard = none) (ty : TypeId) (x y : Operand) (ho : o.op = .store ty x y) (ad : Addr) (v : Value) (w' : World) (hx : a.eval x = .pointer (some ad)) (hy : a.eval y = v)
    (hrun : (storeVar ty ad v).run P w = .ok () w') (h : wpList P ops Q rest (a.put o.dst undef) w') : wpList P ops Q (o :: rest) a w :=
  wpList_plain hgd fun _ hK => by
    unfold Oper.wp execOp
    simp only [ho, hx, hy, Instr.storeAt, Instr.sureAddr, Sem.run_bind, Sem.run_pure, Result.andThen_ok, hrun]
    exact hK _ _ h

/-- A comparison by its run. -/
theorem wpList_eql_run (hgd : o.guard = none) (t1 t2 : TypeId) (x y : Operand) (ho : o.op = .binOp .eql t1 x y t2) (vx vy : Value) (b : Bool) (hx : a.eval x = vx) (hy : a.eval y = vy)
    (hrun : (binOp .eql t1 vx vy).run P w = .ok (.bool b) w) (hg : (eqGuard .eql t1 x y vx vy).run P w = .ok () w) (h : wpList P ops Q rest (a.put o.dst (.bool b)) w) : wpList P ops Q (o :: rest) a w :=
  wpList_plain hgd fun _ hK => by
    unfold Oper.wp execOp
    simp [ho, hx, hy, hrun, hg, Sem.run_bind, Result.andThen_ok]
    exact hK _ _ h
end

/-- A piece's two cells; a board's. -/
def encP (p : Int × Int) : List Value := [.int .i8 p.1, .int .i8 p.2]
def enc (bd : List (Int × Int)) : List Value := bd.flatMap encP

theorem enc_length (bd : List (Int × Int)) : (enc bd).length = 2 * bd.length := by
  induction bd with
  | nil => rfl
  | cons p t ih => show (encP p ++ enc t).length = _; rw [List.length_append, ih, List.length_cons]; simp [encP]; omega

theorem enc_drop (bd : List (Int × Int)) (n : Nat) : (enc bd).drop (2 * n) = enc (bd.drop n) := by
  induction n generalizing bd with
  | zero => rfl
  | succ n ih =>
    cases bd with
    | nil => simp [enc]
    | cons p t =>
      show (encP p ++ enc t).drop (2 * (n + 1)) = enc (t.drop n)
      rw [← ih t, show 2 * (n + 1) = 2 * n + 2 from by omega]
      rfl

theorem enc_take (bd : List (Int × Int)) (n : Nat) : (enc bd).take (2 * n) = enc (bd.take n) := by
  induction n generalizing bd with
  | zero => rfl
  | succ n ih =>
    cases bd with
    | nil => simp [enc]
    | cons p t =>
      show (encP p ++ enc t).take (2 * (n + 1)) = encP p ++ enc (t.take n)
      rw [← ih t, show 2 * (n + 1) = 2 * n + 2 from by omega]
      rfl

theorem enc_ones (bd : List (Int × Int)) : ∀ v ∈ enc bd, v.oneCell' = true := by
  intro v hv
  obtain ⟨p, _, hp⟩ := List.mem_flatMap.1 hv
  simp only [encP, List.mem_cons, List.not_mem_nil, or_false] at hp
  rcases hp with rfl | rfl <;> rfl

theorem info29 : (Yba.prog.info? 29).map (·.size) = some 162 := by kernel_rfl
theorem info28 : (Yba.prog.info? 28).map (·.size) = some 18 := by kernel_rfl
theorem info27 : (Yba.prog.info? 27).map (·.size) = some 2 := by kernel_rfl
theorem size28 (W : World) : (sizeOf 28).run Yba.prog W = .ok 18 W := by kernel_rfl
theorem size27 (W : World) : (sizeOf 27).run Yba.prog W = .ok 2 W := by kernel_rfl
theorem size29 (W : World) : (sizeOf 29).run Yba.prog W = .ok 162 W := by kernel_rfl
theorem agg28 (W : World) : (isAgg 28).run Yba.prog W = .ok true W := by kernel_rfl
theorem agg27 (W : World) : (isAgg 27).run Yba.prog W = .ok true W := by kernel_rfl
theorem agg29 (W : World) : (isAgg 29).run Yba.prog W = .ok true W := by kernel_rfl

/-- The board read whole. -/
theorem load_board (w : World) (b : Nat) (bd : List (Int × Int)) (hl : bd.length = 81) (h : ∀ j v, (enc bd)[j]? = some v → w.cell? ⟨b, j, none⟩ = some v) :
    (loadVar 29 ⟨b, 0, none⟩).run Yba.prog w = .ok (.agg (enc bd).toArray) w := by
  have e : (enc bd).length = 162 := by rw [enc_length, hl]
  have := run_loadCells_list (P := Yba.prog) w ⟨b, 0, none⟩ (enc bd) (fun j v hj => by rw [Addr.add_lit, Nat.zero_add]; exact h j v hj)
  rw [e] at this
  simp only [loadVar, Sem.run_bind, agg29, Result.andThen_ok, if_true, size29, this, Sem.run_pure]

/-- A row out of the board; a piece out of a row. -/
theorem index_row (w : World) (bd : List (Int × Int)) (r : Nat) (hr : r < 9) :
    (Instr.index 29 (.agg (enc bd).toArray) (.int .i64 (r : Int))).run Yba.prog w = .ok (.agg (enc ((bd.drop (9 * r)).take 9)).toArray) w := by
  have hu : Yba.prog.underlying 29 = some (.array 9 28) := Yba.underlying29
  have e : ((enc bd).toArray.extract (r * 18) (r * 18 + 18)) = (enc ((bd.drop (9 * r)).take 9)).toArray := by
    rw [← enc_take, ← enc_drop]
    apply Array.toList_inj.1
    simp [List.extract, show 2 * (9 * r) = r * 18 from by omega]
  simp only [Instr.index, asIntOf, Sem.run_bind, Sem.run_pure, Result.andThen_ok, run_underlying hu]
  rw [if_pos (by omega)]
  simp only [Sem.run_bind, size28, Result.andThen_ok, part, agg28, if_true, Sem.run_pure, Int.toNat_natCast, e]

theorem index_piece (w : World) (row : List (Int × Int)) (f : Nat) (hf : f < 9) (hl : row.length = 9) :
    (Instr.index 28 (.agg (enc row).toArray) (.int .i64 (f : Int))).run Yba.prog w = .ok (.agg #[.int .i8 (row.getD f (0, 0)).1, .int .i8 (row.getD f (0, 0)).2]) w := by
  have hu : Yba.prog.underlying 28 = some (.array 9 27) := Yba.underlying28
  have e : ((enc row).toArray.extract (f * 2) (f * 2 + 2)) = #[.int .i8 (row.getD f (0, 0)).1, .int .i8 (row.getD f (0, 0)).2] := by
    apply Array.toList_inj.1
    have h1 := enc_take (row.drop f) 1
    rw [← enc_drop] at h1
    have h2 : (row.drop f).take 1 = [row.getD f (0, 0)] := by
      have hd : row.drop f = row[f]'(by omega) :: row.drop (f + 1) := List.drop_eq_getElem_cons (by omega)
      rw [hd, List.take_succ_cons, List.take_zero]; simp [List.getD, List.getElem?_eq_getElem (show f < row.length by omega)]
    rw [h2] at h1
    simp only [Array.toList_extract, List.extract, Nat.add_sub_cancel_left, show f * 2 = 2 * f from by omega]
    exact h1
  simp only [Instr.index, asIntOf, Sem.run_bind, Sem.run_pure, Result.andThen_ok, run_underlying hu]
  rw [if_pos (by omega)]
  simp only [Sem.run_bind, size27, Result.andThen_ok, part, agg27, if_true, Sem.run_pure, Int.toNat_natCast, e]

/-- A row stored into its new variable. -/
theorem store_row (w : World) (old : Array Value) (row : List (Int × Int)) (hl : row.length = 9) (ho : old.size = 18) :
    (storeVar 28 ⟨w.heap.size, 0, none⟩ (.agg (enc row).toArray)).run Yba.prog (w.alloc (.cells old 28)) = .ok () (w.alloc (.cells (enc row).toArray 28)) := by
  have e : (enc row).toArray.size = 18 := by simp [enc_length, hl]
  rw [run_storeVar_row (P := Yba.prog) (w.alloc (.cells old 28)) w.heap.size 28 28 old (enc row).toArray (heap_alloc_new _ _) (by rw [info28, e]) (by omega) (by
    rw [Array.all_eq_true_iff_forall_mem]; intro v hv; exact enc_ones row v (by simpa using hv))]
  congr 1
  unfold World.setRow World.alloc
  congr 1
  apply Array.ext
  · simp
  · intro k h1 h2
    simp only [Array.getElem_modify, Array.getElem_push]
    by_cases hk : k < w.heap.size
    · rw [if_neg (by omega)]; simp only [hk, dif_pos]
    · have hk2 : w.heap.size = k := by simp at h2; omega
      rw [if_pos hk2]; simp only [hk, dif_neg, not_false_iff]
end Go.Proofs.Ybulkbyzy
