import Derived.Test.YbulkbyweFmtCur
namespace Go.Proofs.YbulkbyweFmt
open Go.Shelf Go.RowKit Go.Lib Go.Proofs

/-- The cursor just ahead of its reader's seek for event j. -/
structure Pre (d : TD) (w : World) (N c p j : Nat) (v0 kb base pb : Option Addr) (l ck L C pl pc : Nat) (D : Nat → Value) : Prop where
  rcd : Rec w c 0 20 D
  d0 : D 0 = .pointer (some ⟨d.t, 0, none⟩)
  d1 : D 1 = .int .i64 j
  d2 : D 2 = .int .i64 j
  d3 : D 3 = .pointer v0
  d9 : D 9 = .slice kb l ck
  d11 : D 11 = .int .u8 1
  d16 : D 16 = .pointer (some ⟨p, 0, none⟩)
  d17 : D 17 = .slice pb pl pc
  d18 : D 18 = .bool false
  cks : CkS w kb l ck
  pv : CkS w pb pl pc
  ats : AtS w p base L C
  le : L ≤ 16
  v0_ : (j = 0 ∧ v0 = none) ∨ (1 ≤ j ∧ v0 = some ⟨d.blk (j - 1), 0, none⟩)
  lt : j < d.n
  nc : N ≤ c
  np : N ≤ p
  cp : c ≠ p
  ok : ∀ g, AtB kb g → N ≤ g ∧ g ≠ c ∧ g ≠ p ∧ ¬ AtB base g ∧ ¬ AtB pb g
  oa : ∀ g, AtB base g → N ≤ g ∧ g ≠ c ∧ g ≠ p ∧ ¬ AtB pb g
  op : ∀ g, AtB pb g → N ≤ g ∧ g ≠ c ∧ g ≠ p
  tl : TL d w N
  kept : w.cell? ⟨d.t, 5, none⟩ = some (.slice none 0 0)
  lp : ∀ g, AtB pb g → g < w.heap.size

/-- Behind cursor.next: i events read. -/
def CNx (d : TD) (w w' : World) (N c p i : Nat) (kb base pb : Option Addr) : Prop :=
  ∃ v0' kb' base' pb' l' ck' L' C' pl' pc' D', Cst d w' N c p i v0' kb' base' pb' l' ck' L' C' pl' pc' D' ∧ (∀ g, CurOwn c p kb' base' pb' g → CurOwn c p kb base pb g ∨ w.heap.size ≤ g) ∧ Fr (CurOwn c p kb base pb) w w'

theorem seek_cur {d : TD} {w : World} {N c p j : Nat} {v0 kb base pb : Option Addr} {l ck L C pl pc : Nat} {D : Nat → Value} (S : Pre d w N c p j v0 kb base pb l ck L C pl pc D) :
    Calls Ybaf.prog 22 #[.pointer (some ⟨c, 3, none⟩), .pointer (some ⟨d.blk j, 0, none⟩), .int .i64 0] w fun e w' => e = .returned (.tuple #[]) ∧ CNx d w w' N c p (j + 1) kb base pb := by
  have lt := S.lt
  have K := S.tl.bk j lt
  have B := S.tl.ltB j lt
  have nc := S.nc
  have np := S.np
  have hv : v0 = none ∨ ∃ b' cs, v0 = some ⟨b', 0, none⟩ ∧ b' ≠ d.blk j ∧ w.heap[b']? = some (.cells cs 67 (0, 0)) := by
    rcases S.v0_ with ⟨-, h⟩ | ⟨h1, h⟩
    · exact Or.inl h
    · obtain ⟨cs, hc⟩ := (S.tl.bk (j - 1) (by omega)).obj
      exact Or.inr ⟨d.blk (j - 1), cs, h, fun e => by have := S.tl.inj (j - 1) j (by omega) lt e; omega, hc⟩
  refine (seekW c 3 (d.blk j) j d.h (d.ps j) (d.bi j) (d.bd j) (d.bm j) (d.nn j) (d.cd j) p L C base kb l ck (fun i => D (3 + i)) w (S.rcd.sub 3 14 (by omega)) K S.ats S.cks S.tl.hh S.le v0 S.d3 hv S.d9 S.d11 S.d16
    (by omega) (by omega) (by omega) (by omega) S.cp (by omega) (by omega)
    (fun g hg => by have := S.oa g hg; exact ⟨this.2.1, this.2.2.1, by omega, by omega⟩)
    (fun g hg => by have := S.ok g hg; exact ⟨this.2.1, this.2.2.1, by omega, by omega, by omega, by omega, this.2.2.2.1⟩)).mono ?_
  rintro e w' ⟨rfl, k, ck', base', L', C', B', X⟩
  have RJ := S.rcd.join X.rcd X.out
  have kX : ∀ g, g < N → ¬ (g = c ∨ g = p ∨ AtB base g ∨ AtB kb g) := fun g hg e => by
    rcases e with e | e | e | e
    · omega
    · omega
    · have := S.oa g e; omega
    · have := S.ok g e; omega
  have T' : TL d w' N := S.tl.fr X.fr kX
  have hsz := X.fr.size
  have Nw : N ≤ w.heap.size := by
    have h := World.block_lt_of_cell? w ⟨c, 0 + 0, none⟩ (S.rcd.cell 0 (by omega))
    simp only at h; omega
  have cw : c < w.heap.size := World.block_lt_of_cell? w ⟨c, 0 + 0, none⟩ (S.rcd.cell 0 (by omega))
  have pw : p < w.heap.size := World.block_lt_of_cell? w ⟨p, 0, none⟩ S.ats.cell
  have ko : AtB kb k ∨ w.heap.size ≤ k := X.kown
  have pk : ¬ AtB pb k := fun e => by
    rcases ko with h | h
    · exact (S.ok k h).2.2.2.2 e
    · have := S.lp k e; omega
  have kk : N ≤ k ∧ k ≠ c ∧ k ≠ p := by
    rcases ko with h | h
    · have := S.ok k h; exact ⟨this.1, this.2.1, this.2.2.1⟩
    · omega
  have pX : ∀ g, AtB pb g → ¬ (g = c ∨ g = p ∨ AtB base g ∨ AtB kb g) := fun g hg e => by
    have h1 := S.op g hg
    rcases e with e | e | e | e
    · exact h1.2.1 e
    · exact h1.2.2 e
    · exact (S.oa g e).2.2.2 hg
    · exact (S.ok g e).2.2.2.2 hg
  refine ⟨rfl, some ⟨d.blk j, 0, none⟩, some ⟨k, 0, none⟩, base', pb, 1, ck', L', C', pl, pc, _, ⟨RJ, S.d0, ?_, fun _ => ?_, ?_, ?_, ?_, ?_, ?_, S.d17, S.d18, ?_, S.pv.fr X.fr pX, X.st, X.le, Or.inr ⟨by omega, by rw [Nat.add_sub_cancel]⟩, fun _ => ⟨k, rfl, rfl, X.k0, by rw [Nat.add_sub_cancel]; exact X.k1⟩, nc, np, S.cp, ?_, ?_, S.op, T', X.fr.cell S.kept (kX _ S.tl.ltT.1)⟩, ?_, ?_⟩
  · show D 1 = _
    rw [S.d1]; congr 1; omega
  · show D 2 = _
    rw [S.d2]; congr 1; omega
  · exact X.b0
  · exact X.b1
  · exact X.b6
  · show B' 8 = _
    rw [X.oth 8 (by omega) (by omega) (by omega) (by omega)]; exact S.d11
  · show B' 13 = _
    rw [X.oth 13 (by omega) (by omega) (by omega) (by omega)]; exact S.d16
  · refine ⟨X.ck.1, X.ck.2, by simp, fun a ha => ?_⟩
    cases ha
    obtain ⟨cur, h1, h2⟩ := X.row
    exact ⟨k, cur, rfl, h1, h2, X.ck.1⟩
  · rintro g ⟨a, ha, rfl⟩
    cases ha
    exact ⟨kk.1, kk.2.1, kk.2.2, X.dis, pk⟩
  · intro g hg
    rcases X.own g hg with h | h
    · exact S.oa g h
    · refine ⟨by omega, by omega, by omega, fun e => ?_⟩
      have := S.lp g e; omega
  · intro g hg
    rcases hg with h | h | h | h | h
    · exact Or.inl (Or.inl h)
    · exact Or.inl (Or.inr (Or.inl h))
    · obtain ⟨a, ha, rfl⟩ := h
      cases ha
      rcases ko with h | h
      · exact Or.inl (Or.inr (Or.inr (Or.inl h)))
      · exact Or.inr h
    · rcases X.own g h with h | h
      · exact Or.inl (Or.inr (Or.inr (Or.inr (Or.inl h))))
      · exact Or.inr h
    · exact Or.inl (Or.inr (Or.inr (Or.inr (Or.inr h))))
  · refine X.fr.weak fun g hg => ?_
    rcases hg with h | h | h | h
    · exact Or.inl h
    · exact Or.inr (Or.inl h)
    · exact Or.inr (Or.inr (Or.inr (Or.inl h)))
    · exact Or.inr (Or.inr (Or.inl h))
end Go.Proofs.YbulkbyweFmt
