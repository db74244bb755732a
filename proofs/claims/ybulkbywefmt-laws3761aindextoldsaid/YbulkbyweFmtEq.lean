import Derived.Test.YbulkbyweFmtTL
namespace Go.Proofs.YbulkbyweFmt
open Go.Shelf Go.RowKit Go.Lib Go.Proofs

theorem nilq (t e : TypeId) (u : Ybaf.prog.underlying t = some (.slice e)) (v : Option Addr) (n c : Nat) : ∀ W, (binOp BinOp.eql t (.slice v n c) (.slice none 0 0)).run Ybaf.prog W = .ok (.bool v.isNone) W := fun W =>
  Lib.run_eql_slice_nil W t e v n c 0 0 u
theorem nil22e : ∀ W, (binOp BinOp.eql 22 (.slice none 0 0) (.slice none 0 0)).run Ybaf.prog W = .ok (.bool true) W := nilq 22 60 Ybaf.underlying22 _ _ _

set_option maxHeartbeats 400000 in
set_option maxRecDepth 100000 in
theorem eq7_nil (w : World) : Calls Ybaf.prog 7 #[.slice none 0 0, .slice none 0 0] w fun e w' => e = .returned (.bool true) ∧ ∃ q, w' = w.drewN q := by
  have nl := nil45e
  go_enter Ybaf.func7, Ybaf.ntmps7
  go_wp2
  go_loopg [20] 1 (fun _ s20 wr => s20 = .int .i64 0 ∧ wr = w)
  case atStart => exact ⟨rfl, rfl⟩
  case round =>
    obtain ⟨rfl, rfl⟩ := hrel
    go_wp2
    go_ret
    exact ⟨rfl, 0, rfl⟩

set_option maxHeartbeats 400000 in
set_option maxRecDepth 100000 in
theorem eq7_row (w : World) (g g' c c' n : Nat) (z : Nat → Nat) (hn : n < 4611686018427387904) (ha : ∀ j, j < n → w.cell? ⟨g, j, none⟩ = some (.int .i64 (z j))) (hb : ∀ j, j < n → w.cell? ⟨g', j, none⟩ = some (.int .i64 (z j))) :
    Calls Ybaf.prog 7 #[.slice (some ⟨g, 0, none⟩) n c, .slice (some ⟨g', 0, none⟩) n c'] w fun e w' => e = .returned (.bool true) ∧ ∃ q, w' = w.drewN q := by
  have mixed := Ybaf.laysUv.mixed
  have n1 : ∀ W, (binOp BinOp.eql 45 (.slice (some ⟨g, 0, none⟩) n c) (.slice none 0 0)).run Ybaf.prog W = .ok (.bool false) W := nilq 45 3 Ybaf.underlying45 _ _ _
  have n2 : ∀ W, (binOp BinOp.eql 45 (.slice (some ⟨g', 0, none⟩) n c') (.slice none 0 0)).run Ybaf.prog W = .ok (.bool false) W := nilq 45 3 Ybaf.underlying45 _ _ _
  have HA : Aside _ := ha
  have HB : Aside _ := hb
  clear ha hb
  go_enter Ybaf.func7, Ybaf.ntmps7
  go_wp2
  go_loopg [20] n (fun kx s20 wr => ∃ i : Nat, s20 = .int .i64 i ∧ i ≤ n ∧ n - i ≤ kx ∧ ∃ q, wr = w.drewN q)
  case atStart => exact ⟨0, rfl, by omega, by omega, 0, rfl⟩
  case round =>
    obtain ⟨i, rfl, hi, hkx, q, rfl⟩ := hrel
    clear n1 n2
    by_cases hlt : i < n
    · have a1 := HA.out i hlt
      have b1 := HB.out i hlt
      have e1 : (i : Int) < (n : Int) := by omega
      have e2 : (0 : Int) ≤ (i : Int) := by omega
      generalize z i = zi at a1 b1
      go_wp2_with fail
      go_quiet (fail)
      go_wp2
      go_roundg (n - (i + 1))
      case measure => omega
      case rel => exact ⟨i + 1, by go_num, by omega, Nat.le_refl _, _, rfl⟩
    · have e1 : ¬ (i : Int) < (n : Int) := by omega
      go_wp2
      go_ret
      exact ⟨rfl, _, rfl⟩

set_option maxHeartbeats 400000 in
set_option maxRecDepth 100000 in
theorem eq8_nil (w : World) : Calls Ybaf.prog 8 #[.slice none 0 0, .slice none 0 0] w fun e w' => e = .returned (.bool true) ∧ ∃ q, w' = w.drewN q := by
  have nl := nil22e
  go_enter Ybaf.func8, Ybaf.ntmps8
  go_wp2
  go_loopg [20] 1 (fun _ s20 wr => s20 = .int .i64 0 ∧ wr = w)
  case atStart => exact ⟨rfl, rfl⟩
  case round =>
    obtain ⟨rfl, rfl⟩ := hrel
    go_wp2
    go_ret
    exact ⟨rfl, 0, rfl⟩

set_option maxHeartbeats 400000 in
set_option maxRecDepth 100000 in
theorem eq8_row (w : World) (g g' c c' n : Nat) (z : Nat → Nat) (hn : n < 4611686018427387904) (ha : ∀ j, j < n → w.cell? ⟨g, j, none⟩ = some (.int .u64 (z j))) (hb : ∀ j, j < n → w.cell? ⟨g', j, none⟩ = some (.int .u64 (z j))) :
    Calls Ybaf.prog 8 #[.slice (some ⟨g, 0, none⟩) n c, .slice (some ⟨g', 0, none⟩) n c'] w fun e w' => e = .returned (.bool true) ∧ ∃ q, w' = w.drewN q := by
  have mixed := Ybaf.laysUv.mixed
  have n1 : ∀ W, (binOp BinOp.eql 22 (.slice (some ⟨g, 0, none⟩) n c) (.slice none 0 0)).run Ybaf.prog W = .ok (.bool false) W := nilq 22 60 Ybaf.underlying22 _ _ _
  have n2 : ∀ W, (binOp BinOp.eql 22 (.slice (some ⟨g', 0, none⟩) n c') (.slice none 0 0)).run Ybaf.prog W = .ok (.bool false) W := nilq 22 60 Ybaf.underlying22 _ _ _
  have HA : Aside _ := ha
  have HB : Aside _ := hb
  clear ha hb
  go_enter Ybaf.func8, Ybaf.ntmps8
  go_wp2
  go_loopg [20] n (fun kx s20 wr => ∃ i : Nat, s20 = .int .i64 i ∧ i ≤ n ∧ n - i ≤ kx ∧ ∃ q, wr = w.drewN q)
  case atStart => exact ⟨0, rfl, by omega, by omega, 0, rfl⟩
  case round =>
    obtain ⟨i, rfl, hi, hkx, q, rfl⟩ := hrel
    clear n1 n2
    by_cases hlt : i < n
    · have a1 := HA.out i hlt
      have b1 := HB.out i hlt
      have e1 : (i : Int) < (n : Int) := by omega
      have e2 : (0 : Int) ≤ (i : Int) := by omega
      generalize z i = zi at a1 b1
      go_wp2_with fail
      go_quiet (fail)
      go_wp2
      go_roundg (n - (i + 1))
      case measure => omega
      case rel => exact ⟨i + 1, by go_num, by omega, Nat.le_refl _, _, rfl⟩
    · have e1 : ¬ (i : Int) < (n : Int) := by omega
      go_wp2
      go_ret
      exact ⟨rfl, _, rfl⟩
end Go.Proofs.YbulkbyweFmt
