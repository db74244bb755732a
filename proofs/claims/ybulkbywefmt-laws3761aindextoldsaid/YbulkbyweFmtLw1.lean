import Derived.Test.YbulkbyweFmtSx2
namespace Go.Proofs.YbulkbyweFmt
open Go.Shelf Go.RowKit Go.Lib Go.Sort Go.Proofs
open Go.Extern.Stop Go.Stop Go.Extern

theorem TL.more {d : TD} {w : World} {N N' : Nat} (T : TL d w N) (h : N ≤ N') : TL d w N' :=
  { T with ltT := by have := T.ltT; omega, ltB := fun i hi => by have := T.ltB i hi; omega }

theorem TLo.more {d : TD} {w w' : World} {H N N' : Nat} (T : TLo d w H N) (f : Fr (fun _ => False) w w') (h : N ≤ N') : TLo d w' 0 N' where
  rcd := (T.fr f (by simp)).rcd
  nil := (T.fr f (by simp)).nil
  row := fun hn => ((T.fr f (by simp)).row hn).more h
  t0 := by have := T.t0; omega
  lo := fun _ => ⟨Nat.zero_le _, Nat.zero_le _, fun _ _ => ⟨Nat.zero_le _, Nat.zero_le _, Nat.zero_le _, Nat.zero_le _⟩⟩

theorem TLo.awayUp {d : TD} {w : World} {H N t : Nat} (T : TLo d w H N) (h : N ≤ t) : Away d t where
  t_ := by have := T.t0; omega
  r_ := fun hn => by
    have := (T.row hn).ltT
    exact ⟨by omega, by omega, fun i hi => by have := (T.row hn).ltB i hi; omega⟩

theorem TLo.awayDn {d : TD} {w : World} {H N t : Nat} (T : TLo d w H N) (h : t < H) : Away d t where
  t_ := by have := T.t0; omega
  r_ := fun hn => by
    have := T.lo hn
    exact ⟨by omega, by omega, fun i hi => by have := this.2.2 i hi; omega⟩

/-- What the model hands back, at any row. -/
structure MR (w w' : World) (d : TD) (pv kv qv : Value) : Prop where
  p : w'.ownsRow w.heap.size 53 2 pv (prd d).length (pcM (prd d))
  kq : if runsB d.ps d.n = true then kv = .slice none 0 0 ∧ qv = .slice none 0 0 else
    (if (scn d.sk d.ps d.n d.n).ks = List.range d.n then kv = .slice none 0 0 else ∃ g c, kv = .slice (some ⟨g, 0, none⟩) (scn d.sk d.ps d.n d.n).ks.length c ∧ w.heap.size ≤ g ∧ (∀ j, j < (scn d.sk d.ps d.n d.n).ks.length → w'.cell? ⟨g, j, none⟩ = some (.int .i64 ((scn d.sk d.ps d.n d.n).ks.getD j 0))) ∧ Tag w' g 3) ∧
    ∃ g c, qv = .slice (some ⟨g, 0, none⟩) (scn d.sk d.ps d.n d.n).qs.length c ∧ w.heap.size ≤ g ∧ (∀ j, j < (scn d.sk d.ps d.n d.n).qs.length → w'.cell? ⟨g, j, none⟩ = some (.int .u64 ((scn d.sk d.ps d.n d.n).qs.getD j 0))) ∧ Tag w' g 60
  fr : Fr (fun _ => False) w w'

theorem model6_any (w : World) (d : TD) (av : Option Addr) (cap b o N : Nat) (S : SrcAt w av d.n cap b o N d.ps) (hN : N ≤ w.heap.size) :
    Calls Ybaf.prog 6 #[.slice av d.n cap, .bool d.sk] w fun e w' => ∃ pv kv qv bb, e = .returned (.tuple #[pv, kv, qv, .bool bb]) ∧ MR w w' d pv kv qv := by
  by_cases hr : runsB d.ps d.n = true
  · refine (model6_runs w av d.n cap b o N d.ps d.sk S hr).mono ?_
    rintro e w' ⟨rfl, rfl⟩
    exact ⟨_, _, _, _, rfl, by rw [prd, if_pos hr]; exact World.ownsRow_nil _ _ _ _, by rw [if_pos hr]; exact ⟨rfl, rfl⟩, Fr.refl _ _⟩
  · have hr' : runsB d.ps d.n = false := by simpa using hr
    refine (model6_main w av d.n cap b o N d.ps d.sk S hr' hN).mono ?_
    rintro e w' ⟨pv, kv, qv, rfl, M⟩
    exact ⟨pv, kv, qv, _, rfl, by rw [prd, if_neg hr]; exact M.p, by rw [if_neg hr]; exact ⟨M.k, M.q⟩, M.fr⟩

/-- Two rows read alike. -/
def EqR (kd : IntKind) (w : World) (a b : Value) : Prop :=
  (a = .slice none 0 0 ∧ b = .slice none 0 0) ∨ ∃ g g' c c' n, ∃ z : Nat → Nat, a = .slice (some ⟨g, 0, none⟩) n c ∧ b = .slice (some ⟨g', 0, none⟩) n c' ∧ n ≤ 512 ∧ (∀ j, j < n → w.cell? ⟨g, j, none⟩ = some (.int kd (z j))) ∧ (∀ j, j < n → w.cell? ⟨g', j, none⟩ = some (.int kd (z j)))

theorem EqR.drewN {kd : IntKind} {w : World} {a b : Value} (h : EqR kd w a b) (q : Nat) : EqR kd (w.drewN q) a b := h

theorem eq7_any (w : World) (a b : Value) (h : EqR .i64 w a b) : Calls Ybaf.prog 7 #[a, b] w fun e w' => e = .returned (.bool true) ∧ ∃ q, w' = w.drewN q := by
  rcases h with ⟨rfl, rfl⟩ | ⟨g, g', c, c', n, z, rfl, rfl, hn, ha, hb⟩
  · exact eq7_nil w
  · exact eq7_row w g g' c c' n z (by omega) ha hb

theorem eq8_any (w : World) (a b : Value) (h : EqR .u64 w a b) : Calls Ybaf.prog 8 #[a, b] w fun e w' => e = .returned (.bool true) ∧ ∃ q, w' = w.drewN q := by
  rcases h with ⟨rfl, rfl⟩ | ⟨g, g', c, c', n, z, rfl, rfl, hn, ha, hb⟩
  · exact eq8_nil w
  · exact eq8_row w g g' c c' n z (by omega) ha hb

/-- index and model agree on a timeline; what is written between is a row of the model's problems. -/
theorem TR.eqs {d : TD} {w5 wa wb W : World} {H U : Nat} {pv kv qv : Value} {X : Nat → Prop} (hn : d.n ≤ 512) (T : TR d w5 H U) (f5 : Fr (fun _ => False) w5 wa) (M : MR wa wb d pv kv qv) (fX : Fr X wb W) (hX : ∀ k, X k → Tag wb k 53) (ht : ¬ X d.t) :
    ∃ kt qt, W.cell? ⟨d.t, 5, none⟩ = some kt ∧ W.cell? ⟨d.t, 6, none⟩ = some qt ∧ EqR .i64 W kt kv ∧ EqR .u64 W qt qv := by
  have fb := f5.trans M.fr (Z := fun _ => False) (fun _ h => h) (fun _ _ h => h)
  have n53 : ∀ k t, Tag wb k t → t ≠ 53 → ¬ X k := fun k t h1 h2 h3 => h2 (h1.ne (hX k h3))
  have hM := M.kq
  unfold TR at T
  split at T
  · rename_i hr
    rw [if_pos hr] at hM
    obtain ⟨rfl, rfl⟩ := hM
    exact ⟨_, _, fX.cell (fb.cell T.1 (by simp)) ht, fX.cell (fb.cell T.2 (by simp)) ht, Or.inl ⟨rfl, rfl⟩, Or.inl ⟨rfl, rfl⟩⟩
  · rename_i hr
    rw [if_neg hr] at hM
    obtain ⟨kt, qt, c5, c6, q0, qo, -, hk⟩ := T
    obtain ⟨mk, gq, cq, rfl, -, mq, tq⟩ := hM
    obtain ⟨hl1, hl2, hl3⟩ := scn_len d.sk d.ps d.n d.n
    have qo' := fb.owns qo (by simp)
    obtain ⟨g1, c1, rfl, -, hc1⟩ := own_at qo' q0
    refine ⟨kt, _, fX.cell (fb.cell c5 (by simp)) ht, fX.cell (fb.cell c6 (by simp)) ht, ?_, Or.inr ⟨g1, gq, c1, cq, _, fun j => (scn d.sk d.ps d.n d.n).qs.getD j 0, rfl, rfl, by omega, fun j hj => fX.cell (hc1 j _ (getD_map_int _ _ _ hj)) (n53 _ _ (own_tag qo' g1 rfl) (by decide)), fun j hj => fX.cell (mq j hj) (n53 _ _ tq (by decide))⟩⟩
    split at hk
    · rename_i he
      rw [if_pos he] at mk
      exact Or.inl ⟨hk, mk⟩
    · rename_i he
      rw [if_neg he] at mk
      obtain ⟨k0, ko, -⟩ := hk
      obtain ⟨gk, ck, rfl, -, mk', tk⟩ := mk
      have ko' := fb.owns ko (by simp)
      obtain ⟨g2, c2, rfl, -, hc2⟩ := own_at ko' k0
      exact Or.inr ⟨g2, gk, c2, ck, _, fun j => (scn d.sk d.ps d.n d.n).ks.getD j 0, rfl, rfl, by omega, fun j hj => fX.cell (hc2 j _ (getD_map_int _ _ _ hj)) (n53 _ _ (own_tag ko' g2 rfl) (by decide)), fun j hj => fX.cell (mk' j hj) (n53 _ _ tk (by decide))⟩
end Go.Proofs.YbulkbyweFmt
