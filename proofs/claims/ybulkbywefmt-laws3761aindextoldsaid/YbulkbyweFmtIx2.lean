import Derived.Test.YbulkbyweFmtIx1
import Derived.Test.YbulkbyweFmtReg2
namespace Go.Proofs.YbulkbyweFmt
open Go.Shelf Go.RowKit Go.Lib Go.Sort Go.Proofs
open Go.Extern.Stop Go.Stop Go.Extern

theorem Ybaf.info51 : (Ybaf.prog.info? 51).map (fun i => (i.zero, i.size, i.bytes)) = some (some (.agg #[.string ⟨#[]⟩, .int .i64 0, .string ⟨#[]⟩, .string ⟨#[]⟩]), 4, 56) := by kernel_rfl
theorem Ybaf.info87 : (Ybaf.prog.info? 87).map (fun i => (i.zero, i.size, i.bytes)) = some (some (.agg #[.int .u64 0, .int .i64 0]), 2, 16) := by kernel_rfl

/-- The log: one file "f", the hosts "a" and "b". -/
structure LogAt (w : World) (lg fb fc nb nc : Nat) : Prop where
  files : w.cell? ⟨lg, 0, none⟩ = some (.slice (some ⟨fb, 0, none⟩) 1 fc)
  fname : w.cell? ⟨fb, 0, none⟩ = some (.string ⟨#[102]⟩)
  names : w.cell? ⟨lg, 5, none⟩ = some (.slice (some ⟨nb, 0, none⟩) 2 nc)
  n0 : w.cell? ⟨nb, 0, none⟩ = some (.string ⟨#[97]⟩)
  n1 : w.cell? ⟨nb, 1, none⟩ = some (.string ⟨#[98]⟩)

theorem LogAt.fr {X : Nat → Prop} {w w' : World} {lg fb fc nb nc : Nat} (G : LogAt w lg fb fc nb nc) (f : Fr X w w') (h1 : ¬ X lg) (h2 : ¬ X fb) (h3 : ¬ X nb) : LogAt w' lg fb fc nb nc :=
  ⟨f.cell G.files h1, f.cell G.fname h2, f.cell G.names h1, f.cell G.n0 h3, f.cell G.n1 h3⟩

/-- What a timeline adds to the problems. -/
def prd (d : TD) : List (Bool × Nat) := if runsB d.ps d.n = true then [] else (scn d.sk d.ps d.n d.n).pr
def prs (dd : Nat → TD) (j : Nat) : List (Bool × Nat) := (List.range j).flatMap fun k => prd (dd k)

theorem prs_succ (dd : Nat → TD) (j : Nat) : prs dd (j + 1) = prs dd j ++ prd (dd j) := by simp [prs, List.range_succ]

/-- Block t is none of d's. -/
structure Away (d : TD) (t : Nat) : Prop where
  t_ : d.t ≠ t
  r_ : 1 ≤ d.n → d.bb ≠ t ∧ d.sb ≠ t ∧ ∀ i, i < d.n → d.blk i ≠ t ∧ d.bi i ≠ t ∧ d.bd i ≠ t ∧ d.bm i ≠ t

theorem TL.frA {X : Nat → Prop} {d : TD} {w w' : World} {N t : Nat} (T : TL d w N) (f : Fr X w w') (A : Away d t) (hX : ∀ k, k < N → X k → k = t) : TL d w' N := by
  obtain ⟨a1, a2, a3⟩ := A.r_ T.n1
  have n : ∀ k, k < N → k ≠ t → ¬ X k := fun k h1 h2 h3 => h2 (hX k h1 h3)
  exact { host := f.cell T.host (n _ T.ltT.1 A.t_)
          blocks := f.cell T.blocks (n _ T.ltT.1 A.t_)
          starts := f.cell T.starts (n _ T.ltT.1 A.t_)
          n_ := f.cell T.n_ (n _ T.ltT.1 A.t_)
          skips := f.cell T.skips (n _ T.ltT.1 A.t_)
          bs := fun i hi => f.cell (T.bs i hi) (n _ T.ltT.2.1 a1)
          ss := fun i hi => f.cell (T.ss i hi) (n _ T.ltT.2.2 a2)
          bk := fun i hi => (T.bk i hi).fr f (n _ (T.ltB i hi).1 (a3 i hi).1) (n _ (T.ltB i hi).2.1 (a3 i hi).2.1) (n _ (T.ltB i hi).2.2.1 (a3 i hi).2.2.1) (n _ (T.ltB i hi).2.2.2 (a3 i hi).2.2.2)
          inj := T.inj, ltT := T.ltT, ltB := T.ltB, neT := T.neT, neB := T.neB, hh := T.hh, n1 := T.n1, n2 := T.n2 }

theorem TLo.frA {X : Nat → Prop} {d : TD} {w w' : World} {H N t : Nat} (T : TLo d w H N) (f : Fr X w w') (A : Away d t) (hX : ∀ k, k < N → X k → k = t) : TLo d w' H N where
  rcd := by
    obtain ⟨D, R, r⟩ := T.rcd
    exact ⟨D, R.fr f (fun h => A.t_ (hX _ T.t0.2 h)), r⟩
  nil := fun h => by
    obtain ⟨a, c, hc⟩ := T.nil h
    exact ⟨a, c, f.cell hc (fun h => A.t_ (hX _ T.t0.2 h))⟩
  row := fun h => (T.row h).frA f A hX
  t0 := T.t0
  lo := T.lo

theorem TLo.fr {X : Nat → Prop} {d : TD} {w w' : World} {H N : Nat} (T : TLo d w H N) (f : Fr X w w') (hX : ∀ k, k < N → ¬ X k) : TLo d w' H N where
  rcd := by
    obtain ⟨D, R, r⟩ := T.rcd
    exact ⟨D, R.fr f (hX _ T.t0.2), r⟩
  nil := fun h => by
    obtain ⟨a, c, hc⟩ := T.nil h
    exact ⟨a, c, f.cell hc (hX _ T.t0.2)⟩
  row := fun h => (T.row h).fr f hX
  t0 := T.t0
  lo := T.lo

/-- The loop over the timelines. -/
structure IxR (w wr : World) (p j : Nat) (dd : Nat → TD) (pv : Value) : Prop where
  pr : ∃ L5 : List ((Bool × Nat) × ByteArray), L5.map (·.1) = prs dd j ∧ L5.length ≤ 512 * j ∧ wr.ownsRow (p + 1) 51 4 pv L5.length (pcI L5)
  at_ : ∃ base L C, AtS wr p base L C ∧ L ≤ 16 ∧ ∀ g, AtB base g → p < g
  ts : ∀ k, k < 2 → j ≤ k → TLo (dd k) wr 0 p
  tr : ∀ k, k < j → TR (dd k) wr (p + 1) wr.heap.size
  fr : Fr (fun k => k = (dd 0).t ∨ k = (dd 1).t ∨ p ≤ k) w wr

theorem IxR.fr0 {w wr wr' : World} {p j : Nat} {dd : Nat → TD} {pv : Value} (I : IxR w wr p j dd pv) (f : Fr (fun _ => False) wr wr') : IxR w wr' p j dd pv where
  pr := by
    obtain ⟨L5, h1, h2, h3⟩ := I.pr
    exact ⟨L5, h1, h2, f.owns h3 (by simp)⟩
  at_ := by
    obtain ⟨b, L, C, h1, h2, h3⟩ := I.at_
    exact ⟨b, L, C, h1.fr f (by simp) (by simp), h2, h3⟩
  ts := fun k h1 h2 => (I.ts k h1 h2).fr f (by simp)
  tr := fun k h1 => (I.tr k h1).fr f (by simp) (by simp) f.size
  fr := I.fr.trans f (fun _ h => h) (fun _ _ h => h.elim)

/-- The cursor's loop: i events read, m of them laid down. -/
structure LP (d : TD) (W0 wr : World) (p ge c i m : Nat) (ev : Value) (base0 : Option Addr) : Prop where
  cst : ∃ v0 kb base pb l ck L C pl pc D, Cst d wr p c p i v0 kb base pb l ck L C pl pc D ∧ (∀ g, CurOwn c p kb base pb g → g = p ∨ AtB base0 g ∨ ge ≤ g) ∧ (∀ g, ev.ownBlock = some g → ¬ CurOwn c p kb base pb g)
  row : wr.ownsRow ge 87 2 ev m (evc d.ps m)
  nn : ev ≠ .slice none 0 0
  fr : Fr (fun g => g = p ∨ AtB base0 g ∨ ge ≤ g) W0 wr

theorem LP.next {d : TD} {W0 wr w' : World} {p ge c i m : Nat} {ev : Value} {base0 kb base pb : Option Addr} (h1 : ∀ g, CurOwn c p kb base pb g → g = p ∨ AtB base0 g ∨ ge ≤ g) (h2 : ∀ g, ev.ownBlock = some g → ¬ CurOwn c p kb base pb g)
    (row : wr.ownsRow ge 87 2 ev m (evc d.ps m)) (nn : ev ≠ .slice none 0 0) (fr : Fr (fun g => g = p ∨ AtB base0 g ∨ ge ≤ g) W0 wr) (hge : ge ≤ wr.heap.size) (N : CNx d wr w' p c p (i + 1) kb base pb) : LP d W0 w' p ge c (i + 1) m ev base0 := by
  obtain ⟨v0', kb', base', pb', l', ck', L', C', pl', pc', D', S', o', f'⟩ := N
  refine ⟨⟨v0', kb', base', pb', l', ck', L', C', pl', pc', D', S', fun g hg => ?_, fun g hg hc => ?_⟩, f'.owns row fun k hk => h2 k hk, nn, fr.trans f' (fun _ h => h) (fun k _ h => h1 k h)⟩
  · rcases o' g hg with h | h
    · exact h1 g h
    · exact Or.inr (Or.inr (by omega))
  · rcases o' g hc with h | h
    · exact h2 g hg h
    · have := (row.lt g hg).2; omega

theorem LP.drewN {d : TD} {W0 wr : World} {p ge c i m : Nat} {ev : Value} {base0 : Option Addr} (P : LP d W0 wr p ge c i m ev base0) (q : Nat) : LP d W0 (wr.drewN q) p ge c i m ev base0 := by
  obtain ⟨v0, kb, base, pb, l, ck, L, C, pl, pc, D, C1, o1, o2⟩ := P.cst
  exact ⟨⟨_, _, _, _, _, _, _, _, _, _, _, C1.drewN q, o1, o2⟩, (Fr.drewN (X := fun _ => False) wr q).owns P.row (by simp), P.nn, P.fr.drewN' q⟩

theorem _root_.Go.World.ownsRow.fr0 {w w' : World} {H e s n : Nat} {v : Value} {xs : List Value} (h : w.ownsRow H e s v n xs) (f : Fr (fun _ => False) w w') : w'.ownsRow H e s v n xs := f.owns h (by simp)
theorem _root_.Go.World.ownsRow.drewN0 {H e s n : Nat} {v : Value} {xs : List Value} (w : World) (h : w.ownsRow H e s v n xs) : w.drew.ownsRow H e s v n xs := h.fr0 (Fr.drew w)

/-- What fmt says of a name. -/
noncomputable def tx (F : Interp) (nm : ByteArray) (x : Nat) : ByteArray := FmtStop.textOf (F "fmt.Sprintf" (sReading nm.data.toList x) 0)

def hostS (k : Nat) : ByteArray := if k = 0 then ⟨#[97]⟩ else ⟨#[98]⟩

structure S10 (c t k ck i h : Nat) (W : World) : Prop where
  a : W.cell? ⟨c, 9, none⟩ = some (.slice (some ⟨k, 0, none⟩) 1 ck)
  b : W.cell? ⟨c, 1, none⟩ = some (.int .i64 i)
  e : W.cell? ⟨t, 0, none⟩ = some (.int .i32 h)

theorem Cst.fr {X : Nat → Prop} {d : TD} {w w' : World} {N c p i : Nat} {v0 kb base pb : Option Addr} {l ck L C pl pc : Nat} {D : Nat → Value} (S : Cst d w N c p i v0 kb base pb l ck L C pl pc D) (f : Fr X w w') (h1 : ∀ g, CurOwn c p kb base pb g → ¬ X g) (h2 : ∀ g, g < N → ¬ X g) : Cst d w' N c p i v0 kb base pb l ck L C pl pc D :=
  { S with rcd := S.rcd.fr f (h1 _ (Or.inl rfl)), cks := S.cks.fr f (fun g hg => h1 g (Or.inr (Or.inr (Or.inl hg)))), pv := S.pv.fr f (fun g hg => h1 g (Or.inr (Or.inr (Or.inr (Or.inr hg))))), ats := S.ats.fr f (h1 _ (Or.inr (Or.inl rfl))) (fun g hg => h1 g (Or.inr (Or.inr (Or.inr (Or.inl hg))))), tl := S.tl.fr f h2, kept := f.cell S.kept (h2 _ S.tl.ltT.1),
           clk := fun h => by
             obtain ⟨k, a, b, c1, c2⟩ := S.clk h
             have hk : ¬ X k := h1 k (Or.inr (Or.inr (Or.inl ⟨_, a, rfl⟩)))
             exact ⟨k, a, b, f.cell c1 hk, f.cell c2 hk⟩ }

theorem Cst.lt {d : TD} {w : World} {N c p i : Nat} {v0 kb base pb : Option Addr} {l ck L C pl pc : Nat} {D : Nat → Value} (S : Cst d w N c p i v0 kb base pb l ck L C pl pc D) (g : Nat) (h : CurOwn c p kb base pb g) : g < w.heap.size := by
  rcases h with rfl | rfl | h | h | h
  · exact World.block_lt_of_cell? w ⟨g, 0 + 0, none⟩ (S.rcd.cell 0 (by omega))
  · exact World.block_lt_of_cell? w ⟨g, 0, none⟩ S.ats.cell
  · exact S.cks.lt h
  · exact S.ats.lt h
  · exact S.pv.lt h

/-- An event more is laid down. -/
theorem LP.lay {d : TD} {W0 wr w' : World} {p ge c i : Nat} {ev ev' : Value} {base0 : Option Addr} {Y : Nat → Prop} (P : LP d W0 wr p ge c (i + 1) i ev base0) (hge : p < ge) (F : Fr Y wr w') (hY : ∀ g, g < wr.heap.size → Y g → ev.ownBlock = some g)
    (o : w'.ownsRow ge 87 2 ev' (i + 1) (evc d.ps (i + 1))) (nn : ev' ≠ .slice none 0 0) (hb : ∀ g, ev'.ownBlock = some g → ev.ownBlock = some g ∨ wr.heap.size ≤ g) : LP d W0 w' p ge c (i + 1) (i + 1) ev' base0 := by
  have hev : ∀ g, ev.ownBlock = some g → ge ≤ g := fun g hg => (P.row.lt g hg).1
  obtain ⟨v0, kb, base, pb, l, ck, L, C, pl, pc, D, C1, o1, o2⟩ := P.cst
  have F' : Fr (fun g => ev.ownBlock = some g) wr w' := F.mono hY
  refine ⟨⟨v0, kb, base, pb, l, ck, L, C, pl, pc, D, C1.fr F' (fun g hg hx => o2 g hx hg) (fun g hg hx => by have := hev g hx; omega), o1, fun g hg hc => ?_⟩, o, nn, P.fr.trans F' (fun _ h => h) (fun k _ h => Or.inr (Or.inr (hev k h)))⟩
  rcases hb g hg with h | h
  · exact o2 g h hc
  · have := C1.lt g hc; omega
end Go.Proofs.YbulkbyweFmt
