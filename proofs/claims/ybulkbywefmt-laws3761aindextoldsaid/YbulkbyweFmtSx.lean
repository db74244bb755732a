import Derived.Test.YbulkbyweFmtIx2
namespace Go.Proofs.YbulkbyweFmt
open Go.Shelf Go.RowKit Go.Lib Go.Sort Go.Proofs
open Go.Extern.Stop Go.Stop Go.Extern

theorem TL.self {X : Nat → Prop} {d : TD} {w w' : World} {N : Nat} {D D' : Nat → Value} (T : TL d w N) (f : Fr X w w') (hX : ∀ k, k < N → X k → k = d.t) (R : Rec w d.t 0 9 D) (R' : Rec w' d.t 0 9 D') (hD : ∀ j, j < 5 → D' j = D j) : TL d w' N := by
  have n : ∀ k, k < N → d.t ≠ k → ¬ X k := fun k h1 h2 h3 => h2 (hX k h1 h3).symm
  have c : ∀ j v, j < 5 → w.cell? ⟨d.t, j, none⟩ = some v → w'.cell? ⟨d.t, j, none⟩ = some v := fun j v hj h => by
    have h1 := R.cell j (by omega)
    have h2 := R'.cell j (by omega)
    rw [Nat.zero_add] at h1 h2
    rw [h2, hD j hj, ← h1, h]
  exact { host := c 0 _ (by omega) T.host
          blocks := c 1 _ (by omega) T.blocks
          starts := c 2 _ (by omega) T.starts
          n_ := c 3 _ (by omega) T.n_
          skips := c 4 _ (by omega) T.skips
          bs := fun i hi => f.cell (T.bs i hi) (n _ T.ltT.2.1 T.neT.1)
          ss := fun i hi => f.cell (T.ss i hi) (n _ T.ltT.2.2 T.neT.2)
          bk := fun i hi => (T.bk i hi).fr f (n _ (T.ltB i hi).1 (T.neB i hi).1) (n _ (T.ltB i hi).2.1 (T.neB i hi).2.1) (n _ (T.ltB i hi).2.2.1 (T.neB i hi).2.2.1) (n _ (T.ltB i hi).2.2.2 (T.neB i hi).2.2.2)
          inj := T.inj, ltT := T.ltT, ltB := T.ltB, neT := T.neT, neB := T.neB, hh := T.hh, n1 := T.n1, n2 := T.n2 }

/-- What stands still in the scan. -/
structure SC (d : TD) (W : World) (p G lg fb fc nb nc gv : Nat) (dS : Array (Nat × Nat)) (pv0 : Value) (D0 : Nat → Value) : Prop where
  ev : EvR W gv d.n dS
  gvG : p < gv ∧ gv < G
  gvp : ¬ pv0.ownBlock = some gv
  log : LogAt W lg fb fc nb nc
  lgp : lg < p ∧ fb < p ∧ nb < p
  lgt : lg ≠ d.t ∧ fb ≠ d.t ∧ nb ≠ d.t
  tl : TL d W p
  rc : Rec W d.t 0 9 D0
  d5 : D0 5 = .slice none 0 0
  pv : ∀ g, pv0.ownBlock = some g → p < g
  size : G ≤ W.heap.size
  tags : ∀ i, i < d.n → ∃ x1 x2, dS[i]! = (x1, x2) ∧ (srt d.ps d.n)[i]? = some (x1, x2)

/-- The scan's state. -/
structure SX (d : TD) (W wr : World) (p G : Nat) (pv0 pv kv qv : Value) (L5 : List ((Bool × Nat) × ByteArray)) (ks qs : List Nat) (D0 : Nat → Value) : Prop where
  r4 : R4 (p + 1) G wr pv kv qv L5.length (pcI L5) ks qs
  pb : ∀ g, pv.ownBlock = some g → pv0.ownBlock = some g ∨ G ≤ g
  rc : Rec wr d.t 0 9 (updB D0 6 qv)
  fr : Fr (fun k => k = d.t ∨ pv0.ownBlock = some k ∨ G ≤ k) W wr

section
variable {d : TD} {W wr w' : World} {p G lg fb fc nb nc gv : Nat} {dS : Array (Nat × Nat)} {pv0 pv pv' kv kv' qv qv' : Value} {L5 : List ((Bool × Nat) × ByteArray)} {ks qs : List Nat} {D0 : Nat → Value}

theorem SX.fr0 (S : SX d W wr p G pv0 pv kv qv L5 ks qs D0) (f : Fr (fun _ => False) wr w') : SX d W w' p G pv0 pv kv qv L5 ks qs D0 :=
  ⟨S.r4.fr f (by simp) (by simp), S.pb, S.rc.fr f (by simp), S.fr.trans f (fun _ h => h) (fun _ _ h => h.elim)⟩

theorem SX.ev (S : SX d W wr p G pv0 pv kv qv L5 ks qs D0) (C : SC d W p G lg fb fc nb nc gv dS pv0 D0) : EvR wr gv d.n dS :=
  C.ev.fr S.fr (fun h => by
    rcases h with h | h | h
    · have := C.gvG; have := C.tl.ltT.1; omega
    · exact C.gvp h
    · have := C.gvG; omega)

theorem SX.log (S : SX d W wr p G pv0 pv kv qv L5 ks qs D0) (C : SC d W p G lg fb fc nb nc gv dS pv0 D0) : LogAt wr lg fb fc nb nc := by
  have h1 := C.lgp
  have h2 := C.lgt
  have h3 := C.gvG
  refine C.log.fr S.fr ?_ ?_ ?_
  · rintro (h | h | h)
    · exact h2.1 h
    · have := C.pv _ h; omega
    · omega
  · rintro (h | h | h)
    · exact h2.2.1 h
    · have := C.pv _ h; omega
    · omega
  · rintro (h | h | h)
    · exact h2.2.2 h
    · have := C.pv _ h; omega
    · omega

theorem SX.tl (S : SX d W wr p G pv0 pv kv qv L5 ks qs D0) (C : SC d W p G lg fb fc nb nc gv dS pv0 D0) : TL d wr p :=
  C.tl.self S.fr (fun k hk h => by
    rcases h with h | h | h
    · exact h
    · have := C.pv _ h; omega
    · have := C.gvG; omega) C.rc S.rc (fun j hj => updB_other _ _ _ _ (by omega))

theorem SX.kept (S : SX d W wr p G pv0 pv kv qv L5 ks qs D0) (C : SC d W p G lg fb fc nb nc gv dS pv0 D0) : wr.cell? ⟨d.t, 5, none⟩ = some (.slice none 0 0) :=
  S.rc.at 5 (by omega) (a := 5) rfl (by rw [updB_other _ _ _ _ (by omega)]; exact C.d5)

theorem SX.places (S : SX d W wr p G pv0 pv kv qv L5 ks qs D0) : wr.cell? ⟨d.t, 6, none⟩ = some qv ∧ wr.frozen? ⟨d.t, 6, none⟩ = false :=
  ⟨S.rc.at 6 (by omega) (a := 6) rfl (updB_same _ _ _), S.rc.free 6 (by omega)⟩

/-- .. with the event at hand in block b. -/
structure SY (d : TD) (W wr : World) (p G : Nat) (pv0 pv kv qv : Value) (L5 : List ((Bool × Nat) × ByteArray)) (ks qs : List Nat) (D0 : Nat → Value) (b x1 x2 : Nat) : Prop where
  sx : SX d W wr p G pv0 pv kv qv L5 ks qs D0
  c0 : wr.cell? ⟨b, 0, none⟩ = some (.int .u64 x1)
  c1 : wr.cell? ⟨b, 1, none⟩ = some (.int .i64 x2)
  np : ¬ pv.ownBlock = some b
  nk : ¬ kv.ownBlock = some b
  nq : ¬ qv.ownBlock = some b
  bG : G ≤ b ∧ b ≠ d.t
  sz : G ≤ wr.heap.size

theorem SX.toY (S : SX d W wr p G pv0 pv kv qv L5 ks qs D0) (C : SC d W p G lg fb fc nb nc gv dS pv0 D0) (x1 x2 : Nat) : SY d W (wr.alloc (.cells #[.int .u64 x1, .int .i64 x2] 87)) p G pv0 pv kv qv L5 ks qs D0 wr.heap.size x1 x2 where
  sx := S.fr0 (Fr.alloc wr _)
  c0 := by simp
  c1 := by simp
  np := fun h => by have := (S.r4.p.lt _ h).2; omega
  nk := fun h => by have := (S.r4.k.lt _ h).2; omega
  nq := fun h => by have := (S.r4.q.lt _ h).2; omega
  bG := by
    have h1 := S.fr.size
    have h2 := C.size
    have h3 := C.gvG
    have h4 := C.tl.ltT.1
    exact ⟨by omega, by omega⟩
  sz := by
    have h1 := S.fr.size
    have h2 := C.size
    simp; omega

variable {b x1 x2 : Nat}

theorem SY.fr0 (S : SY d W wr p G pv0 pv kv qv L5 ks qs D0 b x1 x2) (f : Fr (fun _ => False) wr w') : SY d W w' p G pv0 pv kv qv L5 ks qs D0 b x1 x2 :=
  ⟨S.sx.fr0 f, f.cell S.c0 (by simp), f.cell S.c1 (by simp), S.np, S.nk, S.nq, S.bG, by have := f.size; have := S.sz; omega⟩

theorem SY.bl (S : SY d W wr p G pv0 pv kv qv L5 ks qs D0 b x1 x2) : b < wr.heap.size := World.block_lt_of_cell? wr ⟨b, 0, none⟩ S.c0

theorem SY.addP (S : SY d W wr p G pv0 pv kv qv L5 ks qs D0 b x1 x2) (C : SC d W p G lg fb fc nb nc gv dS pv0 D0) {y : (Bool × Nat) × ByteArray} (o : w'.ownsRow (p + 1) 51 4 pv' (L5.length + 1) (pcI L5 ++ [.string ⟨#[102]⟩, .int .i64 (y.1.2 : Int), kindS y.1.1, .string y.2])) (g : wr.grownBy w' pv.ownBlock) (a : pv'.ownBlock = pv.ownBlock ∨ pv'.ownBlock = some wr.heap.size) : SY d W w' p G pv0 pv' kv qv (L5 ++ [y]) ks qs D0 b x1 x2 := by
  have f : Fr (fun k => pv.ownBlock = some k) wr w' := Fr.grown g (fun _ h => h)
  have hb := S.bl
  have hp : ∀ k, pv.ownBlock = some k → p + 1 ≤ k := fun k hk => (S.sx.r4.p.lt k hk).1
  have h4 := C.tl.ltT.1
  refine ⟨⟨S.sx.r4.addP (by rw [pcI_snoc, List.length_append]; exact o) g, fun k hk => ?_, S.sx.rc.fr f (fun h => by have := hp _ h; omega), S.sx.fr.trans f (fun _ h => h) (fun k _ h => ?_)⟩, f.cell S.c0 S.np, f.cell S.c1 S.np, fun h => ?_, S.nk, S.nq, S.bG, by have := f.size; have := S.sz; omega⟩
  · rcases a with a | a
    · rw [a] at hk; exact S.sx.pb k hk
    · rw [a] at hk; injection hk with hk; have := S.sz; exact Or.inr (by omega)
  · exact (S.sx.pb k h).elim (fun h => Or.inr (Or.inl h)) (fun h => Or.inr (Or.inr h))
  · rcases a with a | a
    · rw [a] at h; exact S.np h
    · rw [a] at h; injection h with h; omega

theorem SY.addK (S : SY d W wr p G pv0 pv kv qv L5 ks qs D0 b x1 x2) (C : SC d W p G lg fb fc nb nc gv dS pv0 D0) {y m : Nat} (o : w'.ownsRow G 3 1 kv' (ks.length + 1) ((ks.map fun x : Nat => Value.int .i64 x) ++ [.int .i64 (y : Int)])) (g : wr.grownBy w' kv.ownBlock) (hn : kv' = .slice none 0 0 ↔ kv = .slice none 0 0 ∧ m = 0) (a : kv'.ownBlock = kv.ownBlock ∨ kv'.ownBlock = some wr.heap.size) : SY d W w' p G pv0 pv kv' qv L5 (ks ++ [y]) qs D0 b x1 x2 := by
  have f : Fr (fun k => kv.ownBlock = some k) wr w' := Fr.grown g (fun _ h => h)
  have hb := S.bl
  have hp : ∀ k, kv.ownBlock = some k → G ≤ k := fun k hk => (S.sx.r4.k.lt k hk).1
  have h4 := C.tl.ltT.1
  have h5 := C.gvG
  refine ⟨⟨S.sx.r4.addK y o g hn, S.sx.pb, S.sx.rc.fr f (fun h => by have := hp _ h; omega), S.sx.fr.trans f (fun _ h => h) (fun k _ h => Or.inr (Or.inr (hp k h)))⟩, f.cell S.c0 S.nk, f.cell S.c1 S.nk, S.np, fun h => ?_, S.nq, S.bG, by have := f.size; have := S.sz; omega⟩
  rcases a with a | a
  · rw [a] at h; exact S.nk h
  · rw [a] at h; injection h with h; omega

/-- .. and the place is stored. -/
theorem SY.addQ (S : SY d W wr p G pv0 pv kv qv L5 ks qs D0 b x1 x2) (C : SC d W p G lg fb fc nb nc gv dS pv0 D0) {y m : Nat} (o : w'.ownsRow G 60 1 qv' (qs.length + 1) ((qs.map fun x : Nat => Value.int .u64 x) ++ [.int .u64 (y : Int)])) (g : wr.grownBy w' qv.ownBlock) (hn : qv' = .slice none 0 0 ↔ qv = .slice none 0 0 ∧ m = 0) : SX d W (w'.setCell ⟨d.t, 6, none⟩ qv') p G pv0 pv kv qv' L5 ks (qs ++ [y]) D0 := by
  have f : Fr (fun k => qv.ownBlock = some k) wr w' := Fr.grown g (fun _ h => h)
  have hp : ∀ k, qv.ownBlock = some k → G ≤ k := fun k hk => (S.sx.r4.q.lt k hk).1
  have h4 := C.tl.ltT.1
  have h5 := C.gvG
  have fs : Fr (fun k => k = d.t) w' (w'.setCell ⟨d.t, 6, none⟩ qv') := Fr.setCell _ _ _ rfl
  refine ⟨(S.sx.r4.addQ y o g hn).fr fs (fun k hk e => by omega) (fun k hk e => by omega), S.sx.pb, ?_, (S.sx.fr.trans f (fun _ h => h) (fun k _ h => Or.inr (Or.inr (hp k h)))).trans fs (fun _ h => h) (fun k _ h => Or.inl h)⟩
  have r := (S.sx.rc.fr f (fun h => by have := hp _ h; omega)).set 6 (by omega) qv'
  rw [Nat.zero_add] at r
  refine ⟨fun j hj => ?_, r.free⟩
  have := r.cell j hj
  rw [this]
  congr 1
  by_cases e : j = 6
  · subst e; rw [updB_same, updB_same]
  · rw [updB_other _ _ _ _ e, updB_other _ _ _ _ e, updB_other _ _ _ _ e]
end

/-- The cells that region 24 reads. -/
structure S24 (b x1 x2 : Nat) (W : World) : Prop where
  a : W.cell? ⟨b, 0, none⟩ = some (.int .u64 x1)
  e : W.cell? ⟨b, 1, none⟩ = some (.int .i64 x2)

theorem hostS_len (k : Nat) : (hostS k).size = 1 := by unfold hostS; split <;> rfl
end Go.Proofs.YbulkbyweFmt
