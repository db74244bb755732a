import Derived.Test.YbulkbyweFmtTm
import Derived.Test.YbulkbyweFmtCur4
namespace Go.Proofs.YbulkbyweFmt
open Go.Shelf Go.RowKit Go.Lib Go.Sort Go.Proofs

set_option maxHeartbeats 400000 in
set_option maxRecDepth 100000 in
theorem inOrder10_nil (t : Nat) (w : World) (a : Option Addr) (c : Nat) (hc : w.cell? ⟨t, 1, none⟩ = some (.slice a 0 c)) :
    Calls Ybaf.prog 10 #[.pointer (some ⟨t, 0, none⟩)] w fun e w' => e = .returned (.bool true) ∧ ∃ q, w' = w.drewN q := by
  have mixed := Ybaf.laysUv.mixed
  go_enter Ybaf.func10, Ybaf.ntmps10
  go_wp2
  go_loopg [3, 11] 0 (fun kx s3 s11 wr => s11 = .int .i64 0 ∧ s3 = .int .u64 1 ∧ wr = w)
  case atStart => exact ⟨rfl, rfl, rfl⟩
  case round =>
    obtain ⟨rfl, rfl, rfl⟩ := hrel
    go_wp2
    go_ret
    exact ⟨rfl, 0, rfl⟩

theorem inOrder10_any (d : TD) (w : World) (H N : Nat) (T : TLo d w H N) :
    Calls Ybaf.prog 10 #[.pointer (some ⟨d.t, 0, none⟩)] w fun e w' => e = .returned (.bool (runsB d.ps d.n)) ∧ ∃ q, w' = w.drewN q := by
  by_cases h : d.n = 0
  · obtain ⟨a, c, hc⟩ := T.nil h
    have := inOrder10_nil d.t w a c hc
    rw [h]; exact this
  · exact inOrder10 d w N (T.row (by omega))

theorem ckNil (w : World) : CkS w none 0 0 := ⟨Nat.le_refl _, by omega, fun _ => rfl, fun a h => by cases h⟩

set_option maxHeartbeats 400000 in
set_option maxRecDepth 100000 in
theorem cursor11 (d : TD) (w : World) (N p L C : Nat) (base : Option Addr) (T : TL d w N) (hk : w.cell? ⟨d.t, 5, none⟩ = some (.slice none 0 0)) (A : AtS w p base L C) (le : L ≤ 16) (np : N ≤ p) (oa : ∀ g, AtB base g → N ≤ g ∧ g ≠ p) (hN : N ≤ w.heap.size) :
    Calls Ybaf.prog 11 #[.pointer (some ⟨d.t, 0, none⟩), .int .u8 1, .pointer (some ⟨p, 0, none⟩)] w fun e w' => e = .returned (.pointer (some ⟨w.heap.size, 0, none⟩)) ∧ (∃ D, Cst d w' N w.heap.size p 0 none none base none 0 0 L C 0 0 D) ∧ Fr (fun _ => False) w w' := by
  have T0 : Aside _ := T
  have A0 : Aside _ := A
  have oa0 : Aside _ := oa
  clear T A oa
  go_enter Ybaf.func11, Ybaf.ntmps11
  go_wp2
  go_ret
  have F := Fr.alloc (X := fun _ => False) w (.cells #[.pointer (some ⟨d.t, 0, none⟩), .int .i64 (-1), .int .i64 0, .pointer none, .int .i64 0, .int .i64 0, .int .i64 0, .int .i64 0, .int .i64 0, .slice none 0 0, .int .i64 0, .int .u8 1, .slice none 0 0, .bool false, .slice none 0 0, .slice none 0 0, .pointer (some ⟨p, 0, none⟩), .slice none 0 0, .bool false, .bool false] 84)
  have R := rec_new w #[.pointer (some ⟨d.t, 0, none⟩), .int .i64 (-1), .int .i64 0, .pointer none, .int .i64 0, .int .i64 0, .int .i64 0, .int .i64 0, .int .i64 0, .slice none 0 0, .int .i64 0, .int .u8 1, .slice none 0 0, .bool false, .slice none 0 0, .slice none 0 0, .pointer (some ⟨p, 0, none⟩), .slice none 0 0, .bool false, .bool false] 84
  have hp : p < w.heap.size := World.block_lt_of_cell? w ⟨p, 0, none⟩ A0.out.cell
  refine ⟨rfl, ⟨_, R, rfl, rfl, fun h => absurd h (by omega), rfl, rfl, rfl, rfl, rfl, rfl, rfl, ckNil _, ckNil _, A0.out.fr F (by simp) (by simp), le, Or.inl ⟨rfl, rfl⟩, fun h => absurd h (by omega), hN, np, by omega, ?_, ?_, ?_, T0.out.fr F (by simp), F.cell hk (by simp)⟩, F⟩
  · rintro g ⟨a, h, -⟩; cases h
  · intro g hg
    have h1 := oa0.out g hg
    have h2 := A0.out.lt hg
    exact ⟨h1.1, by omega, h1.2, by rintro ⟨a, h, -⟩; cases h⟩
  · rintro g ⟨a, h, -⟩; cases h
end Go.Proofs.YbulkbyweFmt
