import Derived.Test.YbulkbyweFmtTL
import Derived.Test.YbulkbyweFmtScan
namespace Go.Proofs.YbulkbyweFmt
open Go.Shelf Go.RowKit Go.Lib Go.Sort Go.Proofs

theorem Ybaf.info3 : (Ybaf.prog.info? 3).map (fun i => (i.zero, i.size, i.bytes)) = some (some (.int .i64 0), 1, 8) := by kernel_rfl
theorem Ybaf.info60 : (Ybaf.prog.info? 60).map (fun i => (i.zero, i.size, i.bytes)) = some (some (.int .u64 0), 1, 8) := by kernel_rfl
theorem Ybaf.info53 : (Ybaf.prog.info? 53).map (fun i => (i.zero, i.size, i.bytes)) = some (some (.agg #[.string ⟨#[]⟩, .int .i64 0]), 2, 24) := by kernel_rfl

/-- Two rows of different element types do not lie in one block. -/
theorem own_ne {w : World} {h1 h2 e1 e2 s1 s2 n1 n2 : Nat} {v1 v2 : Value} {x1 x2 : List Value} (a : w.ownsRow h1 e1 s1 v1 n1 x1) (b : w.ownsRow h2 e2 s2 v2 n2 x2) (he : e1 ≠ e2) : v1.ownBlock = none ∨ v1.ownBlock ≠ v2.ownBlock := by
  rcases a.2 with ⟨rfl, -⟩ | ⟨g, c, cur, rfl, -, hg, -⟩
  · exact Or.inl rfl
  · refine Or.inr fun h => ?_
    rcases b.2 with ⟨rfl, -⟩ | ⟨g', c', cur', rfl, -, hg', -⟩
    · cases h
    · simp only [Value.ownBlock, Option.some.injEq] at h
      subst h
      rw [hg] at hg'
      injection hg' with hg'
      injection hg' with _ h2 _
      exact he h2

/-- The three rows that the scan gathers. -/
structure R3 (H tp sz : Nat) (w : World) (pv kv qv : Value) (np : Nat) (pc : List Value) (ks qs : List Nat) : Prop where
  p : w.ownsRow H tp sz pv np pc
  k : w.ownsRow H 3 1 kv ks.length (ks.map fun x : Nat => Value.int .i64 x)
  q : w.ownsRow H 60 1 qv qs.length (qs.map fun x : Nat => Value.int .u64 x)
  k0 : kv ≠ .slice none 0 0
  q0 : qv ≠ .slice none 0 0
  t1 : tp ≠ 3
  t2 : tp ≠ 60

theorem R3.fr {X : Nat → Prop} {H tp sz np : Nat} {w w' : World} {pv kv qv : Value} {pc : List Value} {ks qs : List Nat} (R : R3 H tp sz w pv kv qv np pc ks qs) (f : Fr X w w') (hX : ∀ k, H ≤ k → ¬ X k) : R3 H tp sz w' pv kv qv np pc ks qs :=
  ⟨f.owns R.p fun k hk => hX k (R.p.lt k hk).1, f.owns R.k fun k hk => hX k (R.k.lt k hk).1, f.owns R.q fun k hk => hX k (R.q.lt k hk).1, R.k0, R.q0, R.t1, R.t2⟩

theorem R3.addP {H tp sz np np' : Nat} {w w' : World} {pv pv' kv qv : Value} {pc pc' : List Value} {ks qs : List Nat} (R : R3 H tp sz w pv kv qv np pc ks qs) (o : w'.ownsRow H tp sz pv' np' pc') (g : w.grownBy w' pv.ownBlock) : R3 H tp sz w' pv' kv qv np' pc' ks qs :=
  ⟨o, R.k.kept g (own_ne R.k R.p (Ne.symm R.t1)), R.q.kept g (own_ne R.q R.p (Ne.symm R.t2)), R.k0, R.q0, R.t1, R.t2⟩

theorem R3.addK {H tp sz np m : Nat} {w w' : World} {pv kv kv' qv : Value} {pc : List Value} {ks qs : List Nat} (R : R3 H tp sz w pv kv qv np pc ks qs) (x : Nat) (o : w'.ownsRow H 3 1 kv' (ks.length + 1) ((ks.map fun x : Nat => Value.int .i64 x) ++ [.int .i64 (x : Int)])) (g : w.grownBy w' kv.ownBlock) (hn : kv' = .slice none 0 0 ↔ kv = .slice none 0 0 ∧ m = 0) : R3 H tp sz w' pv kv' qv np pc (ks ++ [x]) qs :=
  ⟨R.p.kept g (own_ne R.p R.k R.t1), by simpa using o, R.q.kept g (own_ne R.q R.k (by decide)), fun h => R.k0 (hn.1 h).1, R.q0, R.t1, R.t2⟩

theorem R3.addQ {H tp sz np m : Nat} {w w' : World} {pv kv qv qv' : Value} {pc : List Value} {ks qs : List Nat} (R : R3 H tp sz w pv kv qv np pc ks qs) (x : Nat) (o : w'.ownsRow H 60 1 qv' (qs.length + 1) ((qs.map fun x : Nat => Value.int .u64 x) ++ [.int .u64 (x : Int)])) (g : w.grownBy w' qv.ownBlock) (hn : qv' = .slice none 0 0 ↔ qv = .slice none 0 0 ∧ m = 0) : R3 H tp sz w' pv kv qv' np pc ks (qs ++ [x]) :=
  ⟨R.p.kept g (own_ne R.p R.q R.t2), R.k.kept g (own_ne R.k R.q (by decide)), by simpa using o, R.k0, fun h => R.q0 (hn.1 h).1, R.t1, R.t2⟩

theorem Fr.row {X : Nat → Prop} {H : Nat} {a w w' : World} {v : Value} (f : Fr X a w) (g : w.grownBy w' v.ownBlock) (hv : ∀ k, v.ownBlock = some k → H ≤ k) (hX : ∀ k, H ≤ k → X k) : Fr X a w' :=
  f.trans (Fr.grown (X := X) g fun k hk => hX k (hv k hk)) (fun _ h => h) (fun _ _ h => h)

/-- A row that is not nil lies somewhere. -/
theorem own_at {w : World} {H e s n : Nat} {v : Value} {xs : List Value} (h : w.ownsRow H e s v n xs) (h0 : v ≠ .slice none 0 0) : ∃ g c, v = .slice (some ⟨g, 0, none⟩) n c ∧ H ≤ g ∧ (∀ j u, xs[j]? = some u → w.cell? ⟨g, j, none⟩ = some u) := by
  rcases h.2 with ⟨rfl, -⟩ | ⟨g, c, cur, rfl, hb, -⟩
  · exact absurd rfl h0
  · refine ⟨g, c, rfl, hb, fun j u hj => ?_⟩
    have := h.cells (g := g) rfl j u hj
    by_cases e : j = 0
    · subst e; simpa [Addr.add] using this
    · simpa [Addr.add, e] using this
end Go.Proofs.YbulkbyweFmt
