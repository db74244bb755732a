import Derived.Test.YbulkbyweFmtTL
namespace Go.Proofs.YbulkbyweFmt
open Go.Shelf Go.RowKit Go.Lib Go.Proofs

/-- The cursor, i events read. -/
structure Cst (d : TD) (w : World) (N c p i : Nat) (v0 kb base pb : Option Addr) (l ck L C pl pc : Nat) (D : Nat → Value) : Prop where
  rcd : Rec w c 0 20 D
  d0 : D 0 = .pointer (some ⟨d.t, 0, none⟩)
  d1 : D 1 = .int .i64 ((i : Int) - 1)
  d2 : 1 ≤ i → D 2 = .int .i64 ((i : Int) - 1)
  d3 : D 3 = .pointer v0
  d4 : D 4 = .int .i64 0
  d9 : D 9 = .slice kb l ck
  d11 : D 11 = .int .u8 1
  d16 : D 16 = .pointer (some ⟨p, 0, none⟩)
  d17 : D 17 = .slice pb pl pc
  d18 : D 18 = .bool false
  cks : CkS w kb l ck
  pv : CkS w pb pl pc
  ats : AtS w p base L C
  le : L ≤ 16
  v0_ : (i = 0 ∧ v0 = none) ∨ (1 ≤ i ∧ v0 = some ⟨d.blk (i - 1), 0, none⟩)
  clk : 1 ≤ i → ∃ k, kb = some ⟨k, 0, none⟩ ∧ l = 1 ∧ w.cell? ⟨k, 0, none⟩ = some (.int .i32 d.h) ∧ w.cell? ⟨k, 1, none⟩ = some (.int .u64 (d.ps (i - 1)))
  nc : N ≤ c
  np : N ≤ p
  cp : c ≠ p
  ok : ∀ g, AtB kb g → N ≤ g ∧ g ≠ c ∧ g ≠ p ∧ ¬ AtB base g ∧ ¬ AtB pb g
  oa : ∀ g, AtB base g → N ≤ g ∧ g ≠ c ∧ g ≠ p ∧ ¬ AtB pb g
  op : ∀ g, AtB pb g → N ≤ g ∧ g ≠ c ∧ g ≠ p
  tl : TL d w N
  kept : w.cell? ⟨d.t, 5, none⟩ = some (.slice none 0 0)

/-- The blocks that a cursor owns. -/
def CurOwn (c p : Nat) (kb base pb : Option Addr) (g : Nat) : Prop := g = c ∨ g = p ∨ AtB kb g ∨ AtB base g ∨ AtB pb g

theorem Rec.sub {w : World} {c n : Nat} {D : Nat → Value} (h : Rec w c 0 n D) (o m : Nat) (hm : o + m ≤ n) : Rec w c o m (fun j => D (o + j)) where
  cell := fun j hj => by have := h.cell (o + j) (by omega); rwa [Nat.zero_add] at this
  free := fun j hj => by have := h.free (o + j) (by omega); rwa [Nat.zero_add] at this

/-- The cursor's cells behind its reader's work. -/
def joinD (D B : Nat → Value) : Nat → Value := fun j => if 3 ≤ j ∧ j < 17 then B (j - 3) else D j

theorem Rec.join {w w' : World} {c : Nat} {D B : Nat → Value} (h : Rec w c 0 20 D) (r : Rec w' c 3 14 B) (o : Out c 3 w w') : Rec w' c 0 20 (joinD D B) where
  cell := fun j hj => by
    rw [Nat.zero_add]
    by_cases e : 3 ≤ j ∧ j < 17
    · have := r.cell (j - 3) (by omega)
      rw [show 3 + (j - 3) = j by omega] at this
      rw [this, joinD, if_pos e]
    · rw [(o j (by omega)).1, joinD, if_neg e]
      have := h.cell j hj
      rwa [Nat.zero_add] at this
  free := fun j hj => by
    rw [Nat.zero_add]
    by_cases e : 3 ≤ j ∧ j < 17
    · have := r.free (j - 3) (by omega)
      rwa [show 3 + (j - 3) = j by omega] at this
    · rw [(o j (by omega)).2]
      have := h.free j hj
      rwa [Nat.zero_add] at this

set_option maxHeartbeats 1000000 in
set_option maxRecDepth 100000 in
theorem cnext_end (d : TD) (w : World) (N c p i : Nat) (v0 kb base pb : Option Addr) (l ck L C pl pc : Nat) (D : Nat → Value) (S : Cst d w N c p i v0 kb base pb l ck L C pl pc D) (hi : i = d.n) :
    Calls Ybaf.prog 12 #[.pointer (some ⟨c, 0, none⟩)] w fun e w' => e = .returned (.bool false) ∧ ∃ q, w' = w.drewN q := by
  have mixed := Ybaf.laysUv.mixed
  have c0 := S.rcd.at 0 (by omega) (a := 0) rfl S.d0
  have c1 := S.rcd.at 1 (by omega) (a := 1) rfl S.d1
  have n2 := S.tl.n2
  have n1 := S.tl.n1
  have hcon := fun q => len21 d w N S.tl S.kept q
  have r1 : IntKind.i64.wrap ((i : Int) - 1 + 1) = (i : Int) := by rw [IntKind.wrap_i64]; omega
  have e1 : (d.n : Int) ≤ (i : Int) := by omega
  obtain ⟨m, hm⟩ : ∃ m : Int, (i : Int) - 1 = m := ⟨_, rfl⟩
  rw [hm] at c1 r1
  clear S hm hi n1 n2
  go_enter Ybaf.func12, Ybaf.ntmps12
  go_wp2_with fail
  go_quiet (exact Calls.quiet_of_same (hcon _))
  go_wp2
  go_ret
  exact ⟨rfl, _, rfl⟩
end Go.Proofs.YbulkbyweFmt
