import Derived.Test.YbulkbyweCallees
namespace Go.Proofs.Ybulkbywe
open Go.RowKit

/-- What 'span' answers over the match M and the indexes I. -/
def spanS (M : List Int) (I : List Nat) : Int × Int :=
  match I.find? (fun i => decide (0 ≤ M.getD (2 * i) 0)) with
  | some i => (M.getD (2 * i) 0, M.getD (2 * i + 1) 0)
  | none => (-1, -1)

theorem find_take_succ {α : Type} (p : α → Bool) (I : List α) (k : Nat) (hk : k < I.length) (hn : (I.take k).find? p = none) :
    (I.take (k + 1)).find? p = (if p I[k] then some I[k] else none) := by
  rw [List.take_succ_eq_append_getElem hk, List.find?_append, hn]
  by_cases h : p I[k] <;> simp [h]

theorem find_of_take {α : Type} (p : α → Bool) (I : List α) (k : Nat) (hk : k < I.length) (hn : (I.take k).find? p = none) (h : p I[k] = true) : I.find? p = some I[k] := by
  have e : I.find? p = (I.take (k + 1) ++ I.drop (k + 1)).find? p := by rw [List.take_append_drop]
  rw [e, List.find?_append, find_take_succ p I k hk hn]
  simp [h]

theorem pair_ret {a b c d : Int} (h : (a, b) = (c, d)) : Ending.returned (.tuple #[.int .i64 a, .int .i64 b]) = .returned (.tuple #[.int .i64 c, .int .i64 d]) := by
  cases h; rfl


set_option maxHeartbeats 1000000 in
set_option maxRecDepth 100000 in
theorem span_only (bg bm cm i : Nat) (M : List Int) (w : World) (hi : 0 < i) (hM : 2 * i + 1 < M.length) (hbig : M.length ≤ 4611686018427387904)
    (g1 : w.cell? ⟨bg, 1, none⟩ = some (.int .i64 i))
    (hm : ∀ j, j < M.length → w.cell? ⟨bm, j, none⟩ = some (.int .i64 (M.getD j 0))) :
    Calls Yba.prog 5 #[.pointer (some ⟨bg, 0, none⟩), .slice (some ⟨bm, 0, none⟩) M.length cm] w fun e w' =>
      e = .returned (.tuple #[.int .i64 (M.getD (2 * i) 0), .int .i64 (M.getD (2 * i + 1) 0)]) ∧ ∃ q, w' = w.drewN q := by
  have c1 := hm (2 * i) (by omega)
  have c2 := hm (2 * i + 1) (by omega)
  have hb1 : (2 * (i : Int)) < (M.length : Int) := by omega
  have hb2 : (2 * (i : Int) + 1) < (M.length : Int) := by omega
  have hii : (0 : Int) < (i : Int) := by omega
  clear hm
  have e1 : (2 * (i : Int)).toNat = 2 * i := by omega
  have e2 : (2 * (i : Int) + 1).toNat = 2 * i + 1 := by omega
  generalize M.getD (2 * i) 0 = x at *
  generalize M.getD (2 * i + 1) 0 = y at *
  go_enter Yba.func5, Yba.ntmps5
  go_wp2
  go_quiet (fail)
  go_wp2
  go_ret2
  exact ⟨rfl, _, rfl⟩

set_option maxHeartbeats 1000000 in
set_option maxRecDepth 100000 in
theorem span_some (bg bm cm gi ci : Nat) (M : List Int) (I : List Nat) (w : World) (hI : ∀ i ∈ I, 2 * i + 1 < M.length) (hbig : M.length ≤ 4611686018427387904) (hIl : I.length ≤ 4611686018427387904)
    (g1 : w.cell? ⟨bg, 1, none⟩ = some (.int .i64 0)) (g0 : w.cell? ⟨bg, 0, none⟩ = some (.slice (some ⟨gi, 0, none⟩) I.length ci))
    (hm : ∀ j, j < M.length → w.cell? ⟨bm, j, none⟩ = some (.int .i64 (M.getD j 0)))
    (hx : ∀ j, (h : j < I.length) → w.cell? ⟨gi, j, none⟩ = some (.int .i64 (I[j] : Nat))) :
    Calls Yba.prog 5 #[.pointer (some ⟨bg, 0, none⟩), .slice (some ⟨bm, 0, none⟩) M.length cm] w fun e w' =>
      e = .returned (.tuple #[.int .i64 (spanS M I).1, .int .i64 (spanS M I).2]) ∧ ∃ q, w' = w.drewN q := by
  go_enter Yba.func5, Yba.ntmps5
  go_wp2
  go_loop [8, 31] (fun _ t => ∃ k : Nat, k ≤ I.length ∧ t = .int .i64 k ∧ (I.take k).find? (fun i => decide (0 ≤ M.getD (2 * i) 0)) = none) (fun _ t => I.length - (intOf t).toNat)
  case atStart => exact ⟨0, Nat.zero_le _, rfl, rfl⟩
  case round =>
    obtain ⟨k, hk, rfl, hfind⟩ := hrel
    have HF : Hid ((I.take k).find? (fun i => decide (0 ≤ M.getD (2 * i) 0)) = none) := hfind
    clear hfind
    by_cases hlt : k < I.length
    · have hlti : (k : Int) < (I.length : Int) := by omega
      have hxk := hx k hlt
      have hIk := hI I[k] (List.getElem_mem hlt)
      obtain ⟨i, hi⟩ : ∃ i, i = I[k] := ⟨_, rfl⟩
      rw [← hi] at hxk hIk
      have HI : Hid (i = I[k]) := hi
      clear hi
      have c1 := hm (2 * i) (by omega)
      have c2 := hm (2 * i + 1) (by omega)
      have hb1 : (2 * (i : Int)) < (M.length : Int) := by omega
      have hb2 : (2 * (i : Int) + 1) < (M.length : Int) := by omega
      have e1 : (2 * (i : Int)).toNat = 2 * i := by omega
      have e2 : (2 * (i : Int) + 1).toNat = 2 * i + 1 := by omega
      have S1 : Hid (∀ x y, M.getD (2 * i) 0 = x → M.getD (2 * i + 1) 0 = y → 0 ≤ x → spanS M I = (x, y)) := by
        intro x y h1 h2 h3
        have := find_of_take (fun i => decide (0 ≤ M.getD (2 * i) 0)) I k hlt HF.out (by simp only [← HI.out, h1, h3, decide_true])
        unfold spanS
        rw [this, ← HI.out]
        simp only [h1, h2]
      have S2 : Hid (∀ x, M.getD (2 * i) 0 = x → ¬ 0 ≤ x → (I.take (k + 1)).find? (fun i => decide (0 ≤ M.getD (2 * i) 0)) = none) := by
        intro x h1 h3
        rw [find_take_succ _ I k hlt HF.out]
        simp only [← HI.out, h1, h3, decide_false, Bool.false_eq_true, if_false]
      clear hm hx hI
      obtain ⟨x, hx⟩ : ∃ x, M.getD (2 * i) 0 = x := ⟨_, rfl⟩
      obtain ⟨y, hy⟩ : ∃ y, M.getD (2 * i + 1) 0 = y := ⟨_, rfl⟩
      rw [hx] at c1
      rw [hy] at c2
      have HX : Hid (M.getD (2 * i) 0 = x) := hx
      have HY : Hid (M.getD (2 * i + 1) 0 = y) := hy
      clear hx hy
      by_cases hp : 0 ≤ x
      · go_wp2
        go_quiet (fail)
        go_wp2
        go_ret2
        refine ⟨?_, _, rfl⟩
        rw [S1.out x y HX.out HY.out hp]
        rfl
      · go_wp2
        go_round
        case rel => exact ⟨k + 1, by omega, by go_num, S2.out x HX.out hp⟩
        case measure => simp [intOf]; omega
    · have S3 : Hid (spanS M I = (-1, -1)) := by
        unfold Hid spanS
        have h := HF.out
        rw [List.take_of_length_le (by omega)] at h
        rw [h]
      go_wp2
      go_ret2
      refine ⟨?_, 0, rfl⟩
      rw [S3.out]
      rfl

set_option maxHeartbeats 1000000 in
set_option maxRecDepth 100000 in
theorem span_nil (bg bm cm n ci : Nat) (ai : Option Addr) (w : World)
    (g1 : w.cell? ⟨bg, 1, none⟩ = some (.int .i64 0)) (g0 : w.cell? ⟨bg, 0, none⟩ = some (.slice ai 0 ci)) :
    Calls Yba.prog 5 #[.pointer (some ⟨bg, 0, none⟩), .slice (some ⟨bm, 0, none⟩) n cm] w fun e w' =>
      e = .returned (.tuple #[.int .i64 (-1), .int .i64 (-1)]) ∧ w' = w := by
  go_enter Yba.func5, Yba.ntmps5
  go_wp2
  refine wp_loop_rounds 1 ?_
  rw [rounds_succ]
  go_wp2
  go_ret2
  exact ⟨rfl, rfl⟩
end Go.Proofs.Ybulkbywe
