import Derived.Test.YbulkbyweFmtCr
import Derived.Test.YbulkbyweFmtStr
import Derived.Test.YbulkbyweFmtEq
import Derived.Test.YbulkbyweFmtSymM
namespace Go.Proofs.YbulkbyweFmt
open Go.Shelf Go.RowKit Go.Lib Go.Sort Go.Proofs

theorem SWK_fr {w0 W : World} {blk off : Nat} {dk : Array (Nat × Nat)} (h : SWK encP 2 w0 blk off dk W) : Fr (fun k => k = blk) w0 W := by
  obtain ⟨m, os, rfl⟩ := h
  refine ⟨rfl, rfl, rfl, ?_, fun k hk hn => ?_⟩
  · simp [sortWorldK, grow, putRowK, putRow, mapBlock]
  · simp only [sortWorldK, grow, putRowK, putRow, mapBlock]
    rw [Array.getElem?_append_left (by simpa using hk)]
    rw [Array.getElem?_modify]
    simp [Ne.symm hn]

/-- The events' cells. -/
def evc (ps : Nat → Nat) (n : Nat) : List Value := (List.range n).flatMap fun j => encP (ps j, j)

theorem evc_succ (ps : Nat → Nat) (n : Nat) : evc ps (n + 1) = evc ps n ++ [.int .u64 (ps n), .int .i64 n] := by
  simp [evc, List.range_succ, encP]

theorem evc_len (ps : Nat → Nat) (n : Nat) : (evc ps n).length = n * 2 := by
  induction n with
  | zero => rfl
  | succ k ih => rw [evc_succ, List.length_append, ih]; simp; omega

theorem evc_get (ps : Nat → Nat) (n i : Nat) (h : i < n) : (evc ps n)[i * 2]? = some (.int .u64 (ps i)) ∧ (evc ps n)[i * 2 + 1]? = some (.int .i64 i) := by
  induction n with
  | zero => omega
  | succ k ih =>
    rw [evc_succ]
    by_cases e : i < k
    · have := ih e
      rw [List.getElem?_append_left (by rw [evc_len]; omega), List.getElem?_append_left (by rw [evc_len]; omega)]
      exact this
    · obtain rfl : i = k := by omega
      rw [List.getElem?_append_right (by rw [evc_len]; omega), List.getElem?_append_right (by rw [evc_len]; omega), evc_len]
      simp

theorem own_free {w : World} {H e s n g c : Nat} {xs : List Value} (h : w.ownsRow H e s (.slice (some ⟨g, 0, none⟩) n c) n xs) (o : Nat) : w.frozen? ⟨g, o, none⟩ = false := by
  rcases h.2 with ⟨h, -⟩ | ⟨g', c', cur, h1, h2, h3, -⟩
  · cases h
  · injection h1 with h1 _ _
    injection h1 with h1
    injection h1 with h1 _ _
    subst h1
    unfold World.frozen?
    simp only [h3]
    simp

theorem EvR.ofOwn {w : World} {H n g c : Nat} {ps : Nat → Nat} (h : w.ownsRow H 87 2 (.slice (some ⟨g, 0, none⟩) n c) n (evc ps n)) : EvR w g n (evs ps n) := by
  obtain ⟨g', c', e, -, hc⟩ := own_at h (by simp)
  injection e with e _ _
  injection e with e
  injection e with e _ _
  subst e
  exact ⟨evs_size ps n, fun i hi => by rw [evs_get _ _ _ hi]; exact hc _ _ (evc_get ps n i hi).1, fun i hi => by rw [evs_get _ _ _ hi]; exact hc _ _ (evc_get ps n i hi).2, fun o _ => own_free h o⟩

theorem EvR.holds {w : World} {g n : Nat} {d : Array (Nat × Nat)} (E : EvR w g n d) : HoldsK encP 2 w g 0 d := by
  have hz := E.sz
  intro t ht
  rw [size_flatK] at ht
  have e : (flatK encP 2 d)[t]! = (encP d[t / 2]!)[t % 2]! := by
    rw [getElem!_pos _ t (by rw [size_flatK]; exact ht)]
    simp [flatK]
  rw [Nat.zero_add, e]
  refine ⟨?_, E.f0 t (by omega)⟩
  rcases Nat.mod_two_eq_zero_or_one t with h | h
  · have := E.c0 (t / 2) (by omega)
    rw [show t / 2 * 2 = t by omega] at this
    rw [h, this]; rfl
  · have := E.c1 (t / 2) (by omega)
    rw [show t / 2 * 2 + 1 = t by omega] at this
    rw [h, this]; rfl

theorem EvR.ofHolds {w : World} {g n : Nat} {d : Array (Nat × Nat)} (hs : d.size = n) (h : HoldsK encP 2 w g 0 d) : EvR w g n d := by
  refine ⟨hs, fun i hi => ?_, fun i hi => ?_, fun o ho => ?_⟩
  · have := (HoldsK.cell h (i := i) (c := 0) (by omega) (by omega)).1
    rw [show 0 + i * 2 + 0 = i * 2 by omega] at this
    exact this
  · have := (HoldsK.cell h (i := i) (c := 1) (by omega) (by omega)).1
    rw [show 0 + i * 2 + 1 = i * 2 + 1 by omega] at this
    exact this
  · have := (HoldsK.cell h (i := o / 2) (c := o % 2) (by omega) (by omega)).2
    rw [show 0 + o / 2 * 2 + o % 2 = o by omega] at this
    exact this

/-- index's problems. -/
def pcI (l : List ((Bool × Nat) × ByteArray)) : List Value := l.flatMap fun x => [.string ⟨#[102]⟩, .int .i64 (x.1.2 : Int), kindS x.1.1, .string x.2]

theorem pcI_snoc (l : List ((Bool × Nat) × ByteArray)) (x : (Bool × Nat) × ByteArray) : pcI (l ++ [x]) = pcI l ++ [.string ⟨#[102]⟩, .int .i64 (x.1.2 : Int), kindS x.1.1, .string x.2] := by simp [pcI]

/-- The rows of index's scan: the problems may be older. -/
structure R4 (Hp H : Nat) (w : World) (pv kv qv : Value) (np : Nat) (pc : List Value) (ks qs : List Nat) : Prop where
  p : w.ownsRow Hp 51 4 pv np pc
  k : w.ownsRow H 3 1 kv ks.length (ks.map fun x : Nat => Value.int .i64 x)
  q : w.ownsRow H 60 1 qv qs.length (qs.map fun x : Nat => Value.int .u64 x)
  k0 : kv ≠ .slice none 0 0
  q0 : qv ≠ .slice none 0 0

section
variable {X : Nat → Prop} {Hp H np np' m : Nat} {w w' : World} {pv pv' kv kv' qv qv' : Value} {pc pc' : List Value} {ks qs : List Nat}

theorem R4.fr (R : R4 Hp H w pv kv qv np pc ks qs) (f : Fr X w w') (hX : ∀ k, Hp ≤ k → ¬ X k) (hX' : ∀ k, H ≤ k → ¬ X k) : R4 Hp H w' pv kv qv np pc ks qs :=
  ⟨f.owns R.p fun k hk => hX k (R.p.lt k hk).1, f.owns R.k fun k hk => hX' k (R.k.lt k hk).1, f.owns R.q fun k hk => hX' k (R.q.lt k hk).1, R.k0, R.q0⟩

theorem R4.addP (R : R4 Hp H w pv kv qv np pc ks qs) (o : w'.ownsRow Hp 51 4 pv' np' pc') (g : w.grownBy w' pv.ownBlock) : R4 Hp H w' pv' kv qv np' pc' ks qs :=
  ⟨o, R.k.kept g (own_ne R.k R.p (by decide)), R.q.kept g (own_ne R.q R.p (by decide)), R.k0, R.q0⟩

theorem R4.addK (R : R4 Hp H w pv kv qv np pc ks qs) (x : Nat) (o : w'.ownsRow H 3 1 kv' (ks.length + 1) ((ks.map fun x : Nat => Value.int .i64 x) ++ [.int .i64 (x : Int)])) (g : w.grownBy w' kv.ownBlock) (hn : kv' = .slice none 0 0 ↔ kv = .slice none 0 0 ∧ m = 0) : R4 Hp H w' pv kv' qv np pc (ks ++ [x]) qs :=
  ⟨R.p.kept g (own_ne R.p R.k (by decide)), by simpa using o, R.q.kept g (own_ne R.q R.k (by decide)), fun h => R.k0 (hn.1 h).1, R.q0⟩

theorem R4.addQ (R : R4 Hp H w pv kv qv np pc ks qs) (x : Nat) (o : w'.ownsRow H 60 1 qv' (qs.length + 1) ((qs.map fun x : Nat => Value.int .u64 x) ++ [.int .u64 (x : Int)])) (g : w.grownBy w' qv.ownBlock) (hn : qv' = .slice none 0 0 ↔ qv = .slice none 0 0 ∧ m = 0) : R4 Hp H w' pv kv qv' np pc ks (qs ++ [x]) :=
  ⟨R.p.kept g (own_ne R.p R.q (by decide)), R.k.kept g (own_ne R.k R.q (by decide)), by simpa using o, R.k0, fun h => R.q0 (hn.1 h).1⟩
end

/-- A timeline behind index: its rows, in blocks from H up to U. -/
def TR (d : TD) (w : World) (H U : Nat) : Prop :=
  if runsB d.ps d.n = true then w.cell? ⟨d.t, 5, none⟩ = some (.slice none 0 0) ∧ w.cell? ⟨d.t, 6, none⟩ = some (.slice none 0 0)
  else ∃ kv qv, w.cell? ⟨d.t, 5, none⟩ = some kv ∧ w.cell? ⟨d.t, 6, none⟩ = some qv ∧ qv ≠ .slice none 0 0 ∧ w.ownsRow H 60 1 qv (scn d.sk d.ps d.n d.n).qs.length ((scn d.sk d.ps d.n d.n).qs.map fun x : Nat => Value.int .u64 x) ∧ (∀ k, qv.ownBlock = some k → k < U) ∧
    (if (scn d.sk d.ps d.n d.n).ks = List.range d.n then kv = .slice none 0 0 else kv ≠ .slice none 0 0 ∧ w.ownsRow H 3 1 kv (scn d.sk d.ps d.n d.n).ks.length ((scn d.sk d.ps d.n d.n).ks.map fun x : Nat => Value.int .i64 x) ∧ (∀ k, kv.ownBlock = some k → k < U))

theorem TR.fr {X : Nat → Prop} {d : TD} {w w' : World} {H U U' : Nat} (T : TR d w H U) (f : Fr X w w') (ht : ¬ X d.t) (hX : ∀ g, H ≤ g → g < U → X g → ¬ Tag w g 3 ∧ ¬ Tag w g 60) (hU : U ≤ U') : TR d w' H U' := by
  unfold TR at T ⊢
  split at T
  · rename_i h
    rw [if_pos h]
    exact ⟨f.cell T.1 ht, f.cell T.2 ht⟩
  · rename_i h
    rw [if_neg h]
    obtain ⟨kv, qv, h1, h2, h3, h4, h5, h6⟩ := T
    refine ⟨kv, qv, f.cell h1 ht, f.cell h2 ht, h3, f.owns h4 fun k hk hx => (hX k (h4.lt k hk).1 (h5 k hk) hx).2 (own_tag h4 k hk), fun k hk => by have := h5 k hk; omega, ?_⟩
    split at h6
    · rename_i e; rw [if_pos e]; exact h6
    · rename_i e; rw [if_neg e]
      exact ⟨h6.1, f.owns h6.2.1 fun k hk hx => (hX k (h6.2.1.lt k hk).1 (h6.2.2 k hk) hx).1 (own_tag h6.2.1 k hk), fun k hk => by have := h6.2.2 k hk; omega⟩
end Go.Proofs.YbulkbyweFmt
