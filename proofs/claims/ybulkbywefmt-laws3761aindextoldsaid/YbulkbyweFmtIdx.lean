import Derived.Test.YbulkbyweFmtRd
import Derived.Shelf.Spec.SlicesGrow
import Derived.Ground.Names8Prog
import Derived.Deep.DeepCutAuto
namespace Go.Proofs.YbulkbyweFmt
open Go.Shelf Go.RowKit Go.Lib Go.Proofs

shelf_lay_g Lays8.n4 Nm8 4 at Ybaf 49 as Ybaf.growI

theorem Ybaf.info21 : (Ybaf.prog.info? 21).map (fun i => (i.zero, i.size, i.bytes)) = some (some (.int .i32 0), 1, 4) := by kernel_rfl

set_option maxHeartbeats 400000 in
set_option maxRecDepth 100000 in
theorem search50 (k cap h : Nat) (w : World) (hh : h = 0 ∨ h = 1) (hc : w.cell? ⟨k, 0, none⟩ = some (.int .i32 h)) :
    Calls Ybaf.prog 50 #[.slice (some ⟨k, 0, none⟩) 1 cap, .int .i32 h] w fun e w' => e = .returned (.int .i64 0) ∧ w' = w := by
  have hb : bits BinOp.and IntKind.i64 0 1 = 0 := by kernel_rfl
  have hb2 : wrap64 0 = 0 := by kernel_rfl
  rcases hh with rfl | rfl
  · go_enter Ybaf.func50, Ybaf.ntmps50
    go_wp2
    go_loopg [5, 6] 1 (fun _ s5 s6 wr => s5 = .int .i64 0 ∧ s6 = .int .i64 1 ∧ wr = w)
    case atStart => exact ⟨rfl, rfl, rfl⟩
    case round =>
      obtain ⟨rfl, rfl, rfl⟩ := hrel
      go_wp2
      go_ret
      exact ⟨rfl, rfl⟩
  · go_enter Ybaf.func50, Ybaf.ntmps50
    go_wp2
    go_loopg [5, 6] 1 (fun _ s5 s6 wr => s5 = .int .i64 0 ∧ s6 = .int .i64 1 ∧ wr = w)
    case atStart => exact ⟨rfl, rfl, rfl⟩
    case round =>
      obtain ⟨rfl, rfl, rfl⟩ := hrel
      go_wp2
      go_ret
      exact ⟨rfl, rfl⟩

theorem Ybaf.info107 : (Ybaf.prog.info? 107).map (fun i => (i.zero, i.size, i.bytes)) = some (some (.agg #[.int .i32 0, .int .u64 0]), 2, 16) := by kernel_rfl

set_option maxHeartbeats 400000 in
set_option maxRecDepth 100000 in
theorem grow37_room (base : Option Addr) (c : Nat) (w : World) (hc : 1 ≤ c) (hc63 : c ≤ 9223372036854775807) :
    Calls Ybaf.prog 37 #[.slice base 0 c, .int .i64 1] w fun e w' => e = .returned (.slice base 0 c) ∧ w' = w := by
  have h2 : wrap64 ((c : Int) - 0) = (c : Int) := by unfold wrap64; omega
  have h3 : wrap64 (1 - (c : Int)) = 1 - (c : Int) := by unfold wrap64; omega
  have h4 : ¬ ((1 : Int) - (c : Int) > 0) := by omega
  go_enter Ybaf.func37, Ybaf.ntmps37
  go_wp2
  go_ret
  exact ⟨rfl, rfl⟩

set_option maxHeartbeats 400000 in
set_option maxRecDepth 100000 in
theorem grow37_nil (w : World) :
    ∃ cs : Array Value, cs.size = grownCap w 1 0 107 * 2 ∧ Calls Ybaf.prog 37 #[.slice none 0 0, .int .i64 1] w fun e w' => e = .returned (.slice (some ⟨w.heap.size, 0, none⟩) 0 (grownCap w 1 0 107)) ∧
      w' = w.drew.alloc (.cells cs 107) := by
  obtain ⟨i0, hi, hz0, hz1, hz2⟩ := info_parts Ybaf.info107
  have hG1 : 1 ≤ grownCap w 1 0 107 := grownCap_ge w _ _ _
  obtain ⟨cs, hcs, hrz⟩ : ∃ cs : Array Value, cs.size = grownCap w 1 0 107 * 2 ∧ ∀ ty, (Builtin.append_ #[78, 3] ty #[.slice none 0 0, .int .i64 1]).run Ybaf.prog w =
      .ok (.slice (some ⟨w.heap.size, 0, none⟩) 1 (grownCap w 1 0 107)) (w.drew.alloc (.cells cs 107)) := by
    refine ⟨_, ?_, fun ty => Lib.run_append_grow_zeros (P := Ybaf.prog) w 78 3 ty 107 i0 _ .i64 .i64 Ybaf.underlying78 Ybaf.underlying3 hi hz0 none 0 0 [] (run_firstCells_none w.drew i0.size 0 0 0) 1 (by omega) (by omega) (by omega) (by omega) (by omega)
      (by rw [hz2]; exact Nat.le_of_lt (by decide))⟩
    simp only [Array.size_append, List.size_toArray, size_zeroCells]
    show 0 + 1 * 2 + (grownCap w 1 0 107 - 1) * 2 = grownCap w 1 0 107 * 2
    omega
  refine ⟨cs, hcs, ?_⟩
  have hG63 : grownCap w 1 0 107 ≤ 9223372036854775807 := by
    have := grownCap_le_maxLen w 1 0 107 (by unfold maxLen; omega)
    unfold maxLen at this
    omega
  clear hcs
  generalize grownCap w 1 0 107 = G at hrz hG1 hG63 ⊢
  go_enter Ybaf.func37, Ybaf.ntmps37
  go_wp2_with (at_builtin; refine Lib.wpList_append_run _ rfl _ _ _ _ rfl _ _ rfl rfl _ _ (hrz _) ?_)
  all_goals (go_ret; exact ⟨rfl, rfl⟩)

/-- The row of the places: its length, its capacity; what it holds does not matter. -/
structure AtS (w : World) (p : Nat) (base : Option Addr) (L C : Nat) : Prop where
  cell : w.cell? ⟨p, 0, none⟩ = some (.slice base L C)
  free : w.frozen? ⟨p, 0, none⟩ = false
  le : L ≤ C
  cap : C ≤ 9223372036854775807
  nil : base = none → C = 0
  row : ∀ a, base = some a → ∃ (g : Nat) (cur : Array Value), a = ⟨g, 0, none⟩ ∧ w.heap[g]? = some (.cells cur 21 (0, 0)) ∧ cur.size = C

/-- Its block. -/
def AtB (base : Option Addr) (k : Nat) : Prop := ∃ a, base = some a ∧ a.block = k

theorem grow49_room (base : Option Addr) (l c n : Nat) (w : World) (hlc : l ≤ c) (hc63 : c ≤ 9223372036854775807) (hn63 : n ≤ 9223372036854775807) (hroom : l + n ≤ c) :
    Calls Ybaf.prog 49 #[.slice base l c, .int .i64 n] w fun e w' => e = .returned (.slice base l c) ∧ w' = w :=
  Any8.slices_Grow_room Ybaf.growI base l c n w hlc hc63 hn63 hroom

theorem AtS.grow {w : World} {p : Nat} {base : Option Addr} {L C : Nat} (h : AtS w p base L C) (n : Nat) (hn : n ≤ 16) (hL : L ≤ 16) (hno : C < L + n) (w2 : World) (hw : w2.heap = w.heap) :
    ∃ cs : Array Value, cs.size = grownCap w2 (L + n) C 21 ∧ Calls Ybaf.prog 49 #[.slice base L C, .int .i64 n] w2 fun e w' => e = .returned (.slice (some ⟨w2.heap.size, 0, none⟩) L (grownCap w2 (L + n) C 21)) ∧ w' = w2.drew.alloc (.cells cs 21) := by
  obtain ⟨i0, hi, hz0, hz1, hz2⟩ := info_parts Ybaf.info21
  obtain ⟨cs, hcl, hcs⟩ : ∃ cs : List Value, cs.length = C * i0.size ∧ ∀ a, base = some a → ∀ j v, cs[j]? = some v → w2.cell? (a.add j) = some v := by
    cases hb : base with
    | none => exact ⟨[], by rw [h.nil hb]; simp, fun a ha => by cases ha⟩
    | some a =>
      obtain ⟨g, cur, rfl, hg, hsz⟩ := h.row a hb
      refine ⟨cur.toList, by rw [hz1]; simpa using hsz, fun a' ha' j v hj => ?_⟩
      cases ha'
      have hadd : (⟨g, 0, none⟩ : Addr).add j = ⟨g, j, none⟩ := by unfold Addr.add; split <;> simp_all
      rw [hadd, cell_of_row w2 g j cur 21 (0, 0) (by rw [hw]; exact hg)]
      simpa using hj
  have := Any8.slices_Grow_grow Ybaf.growI i0 _ hi hz0 (by omega) base L C n cs w2 h.le hno (by rw [hz2]; omega) (by omega) hcl h.nil hcs
  refine ⟨_, ?_, this⟩
  have hG : L + n ≤ grownCap w2 (L + n) C 21 := grownCap_ge w2 _ _ _
  have hh := h.le
  simp only [Array.size_append, List.size_toArray, size_zeroCells, hcl, hz1]
  show _ + _ * (Value.cells _).size + _ * (Value.cells _).size = _
  have : (Value.cells (.int .i32 0)).size = 1 := rfl
  rw [this]
  change C * 1 + (L + n - C) * 1 + (grownCap w2 (L + n) C 21 - (L + n)) * 1 = grownCap w2 (L + n) C 21
  omega
end Go.Proofs.YbulkbyweFmt
