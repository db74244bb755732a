import Derived.Test.YbulkbyweFmtCur2
namespace Go.Proofs.YbulkbyweFmt
open Go.Shelf Go.RowKit Go.Lib Go.Proofs

theorem CNx.from {d : TD} {w W w' : World} {N c p i : Nat} {kb base pb pb1 : Option Addr} (h : CNx d W w' N c p i kb base pb1) (F : Fr (CurOwn c p kb base pb) w W) (hp : ∀ g, AtB pb1 g → AtB pb g ∨ w.heap.size ≤ g) : CNx d w w' N c p i kb base pb := by
  obtain ⟨v0', kb', base', pb', l', ck', L', C', pl', pc', D', S, O, F'⟩ := h
  have hs := F.size
  have key : ∀ g, CurOwn c p kb base pb1 g → CurOwn c p kb base pb g ∨ w.heap.size ≤ g := fun g hg => by
    rcases hg with h | h | h | h | h
    · exact Or.inl (Or.inl h)
    · exact Or.inl (Or.inr (Or.inl h))
    · exact Or.inl (Or.inr (Or.inr (Or.inl h)))
    · exact Or.inl (Or.inr (Or.inr (Or.inr (Or.inl h))))
    · rcases hp g h with h | h
      · exact Or.inl (Or.inr (Or.inr (Or.inr (Or.inr h))))
      · exact Or.inr h
  refine ⟨v0', kb', base', pb', l', ck', L', C', pl', pc', D', S, fun g hg => ?_, F.trans F' (fun _ h => h) fun g hg h => ?_⟩
  · rcases O g hg with h | h
    · exact key g h
    · exact Or.inr (by omega)
  · rcases key g h with h | h
    · exact h
    · omega

theorem CkS.lt {w : World} {kb : Option Addr} {l ck : Nat} (A : CkS w kb l ck) {g : Nat} (h : AtB kb g) : g < w.heap.size := by
  obtain ⟨a, ha, rfl⟩ := h
  obtain ⟨g, cur, rfl, hg, -⟩ := A.row a ha
  exact (Array.getElem?_eq_some_iff.1 hg).1

theorem Pre.drewN {d : TD} {w : World} {N c p j : Nat} {v0 kb base pb : Option Addr} {l ck L C pl pc : Nat} {D : Nat → Value} (S : Pre d w N c p j v0 kb base pb l ck L C pl pc D) (q : Nat) : Pre d (w.drewN q) N c p j v0 kb base pb l ck L C pl pc D :=
  have F : Fr (fun _ => False) w (w.drewN q) := Fr.drewN w q
  { S with rcd := S.rcd.drewN q, cks := S.cks.fr F (by simp), pv := S.pv.fr F (by simp), ats := S.ats.fr F (by simp) (by simp), tl := S.tl.fr F (by simp), kept := S.kept, lp := S.lp }

/-- Ahead of the seek: the cursor's own cells have been turned. -/
theorem Cst.pre {d : TD} {w W : World} {N c p i : Nat} {v0 kb base pb pb1 : Option Addr} {l ck L C pl pc pl1 pc1 : Nat} {D D1 : Nat → Value} (S : Cst d w N c p i v0 kb base pb l ck L C pl pc D) (lt : i < d.n) (R : Rec W c 0 20 D1) (F : Fr (fun k => k = c ∨ AtB pb k) w W)
    (e1 : D1 1 = .int .i64 i) (e2 : D1 2 = .int .i64 i) (e17 : D1 17 = .slice pb1 pl1 pc1) (oth : ∀ j, j ≠ 1 → j ≠ 2 → j ≠ 17 → j ≠ 19 → D1 j = D j) (pv : CkS W pb1 pl1 pc1)
    (hp : ∀ g, AtB pb1 g → AtB pb g ∨ w.heap.size ≤ g) : Pre d W N c p i v0 kb base pb1 l ck L C pl1 pc1 D1 := by
  have nc := S.nc
  have np := S.np
  have X : ∀ g, g < N → ¬ (g = c ∨ AtB pb g) := fun g hg e => by
    rcases e with e | e
    · omega
    · have := S.op g e; omega
  have cw : c < w.heap.size := World.block_lt_of_cell? w ⟨c, 0 + 0, none⟩ (S.rcd.cell 0 (by omega))
  have pw : p < w.heap.size := World.block_lt_of_cell? w ⟨p, 0, none⟩ S.ats.cell
  refine ⟨R, by rw [oth 0 (by omega) (by omega) (by omega) (by omega)]; exact S.d0, e1, e2, by rw [oth 3 (by omega) (by omega) (by omega) (by omega)]; exact S.d3, by rw [oth 9 (by omega) (by omega) (by omega) (by omega)]; exact S.d9, by rw [oth 11 (by omega) (by omega) (by omega) (by omega)]; exact S.d11,
    by rw [oth 16 (by omega) (by omega) (by omega) (by omega)]; exact S.d16, e17, by rw [oth 18 (by omega) (by omega) (by omega) (by omega)]; exact S.d18, ?_, pv, ?_, S.le, S.v0_, lt, nc, np, S.cp, ?_, ?_, ?_, S.tl.fr F X, F.cell S.kept (X _ S.tl.ltT.1), fun g hg => pv.lt hg⟩
  · refine S.cks.fr F fun g hg e => ?_
    rcases e with e | e
    · exact (S.ok g hg).2.1 e
    · exact (S.ok g hg).2.2.2.2 e
  · refine S.ats.fr F (fun e => ?_) fun g hg e => ?_
    · rcases e with e | e
      · exact S.cp e.symm
      · exact (S.op p e).2.2 rfl
    · rcases e with e | e
      · exact (S.oa g hg).2.1 e
      · exact (S.oa g hg).2.2.2 e
  · intro g hg
    have h := S.ok g hg
    refine ⟨h.1, h.2.1, h.2.2.1, h.2.2.2.1, fun e => ?_⟩
    rcases hp g e with e | e
    · exact h.2.2.2.2 e
    · have := S.cks.lt hg; omega
  · intro g hg
    have h := S.oa g hg
    refine ⟨h.1, h.2.1, h.2.2.1, fun e => ?_⟩
    rcases hp g e with e | e
    · exact h.2.2.2 e
    · have := S.ats.lt hg; omega
  · intro g hg
    rcases hp g hg with e | e
    · exact S.op g e
    · omega

set_option maxHeartbeats 1000000 in
set_option maxRecDepth 100000 in
theorem cnext_first (d : TD) (w : World) (N c p i : Nat) (v0 kb base pb : Option Addr) (l ck L C pl pc : Nat) (D : Nat → Value) (S : Cst d w N c p i v0 kb base pb l ck L C pl pc D) (hi : i = 0) :
    Calls Ybaf.prog 12 #[.pointer (some ⟨c, 0, none⟩)] w fun e w' => e = .returned (.bool true) ∧ CNx d w w' N c p 1 kb base pb := by
  have mixed := Ybaf.laysUv.mixed
  subst hi
  have c0 := S.rcd.at 0 (by omega) (a := 0) rfl S.d0
  have c1 := S.rcd.at 1 (by omega) (a := 1) rfl (v := .int .i64 (-1)) (by have := S.d1; simpa using this)
  have c2 := S.rcd.at 2 (by omega) (a := 2) rfl rfl
  have c19 := S.rcd.at 19 (by omega) (a := 19) rfl rfl
  have f1 := S.rcd.nf 1 (by omega) (a := 1) rfl
  have f2 := S.rcd.nf 2 (by omega) (a := 2) rfl
  have f19 := S.rcd.nf 19 (by omega) (a := 19) rfl
  have n2 := S.tl.n2
  have n1 := S.tl.n1
  have kp := S.kept
  have tb := S.tl.blocks
  have tb0 := S.tl.bs 0 n1
  have hcon := fun q => len21 d w N S.tl S.kept q
  have e1 : ¬ (d.n : Int) ≤ 0 := by omega
  have e2 : (0 : Int) < (d.n : Int) := by omega
  have ne1 := nil45e
  have ne2 := nil45n
  have ct : c ≠ d.t := by have := S.nc; have := S.tl.ltT; omega
  have cb : c ≠ d.bb := by have := S.nc; have := S.tl.ltT; omega
  have S0 : Aside _ := S
  clear S
  go_enter Ybaf.func12, Ybaf.ntmps12
  go_wp2_with fail
  go_quiet (exact Calls.quiet_of_same (hcon _))
  generalize nq = z1
  clear nq
  go_wp2_with fail
  go_quiet (fail)
  generalize nq = z2
  clear nq
  go_upto_region 15 with (fail)
  have P : Aside (Pre d ((((w.drewN (z1 + z2)).setCell ⟨c, 1, none⟩ (.int .i64 0)).setCell ⟨c, 19, none⟩ (.bool false)).setCell ⟨c, 2, none⟩ (.int .i64 0)) N c p 0 v0 kb base pb l ck L C pl pc (updB (updB (updB D 1 (.int .i64 0)) 19 (.bool false)) 2 (.int .i64 0))) := by
    refine S0.out.pre (by omega) ((((S0.out.rcd.drewN _).set' 1 (by omega) _ rfl _).set' 19 (by omega) _ rfl _).set' 2 (by omega) _ rfl _) ?_ rfl rfl S0.out.d17 (fun j h1 h2 h3 h4 => by simp [updB, h1, h2, h4]) ?_ (fun g hg => Or.inl hg)
    · exact ((((Fr.refl (fun k => k = c ∨ AtB pb k) w).drewN' _).set' ⟨c, 1, none⟩ _ (Or.inl rfl)).set' ⟨c, 19, none⟩ _ (Or.inl rfl)).set' ⟨c, 2, none⟩ _ (Or.inl rfl)
    · exact S0.out.pv.fr (((((Fr.refl (fun k => k = c) w).drewN' _).set' ⟨c, 1, none⟩ _ rfl).set' ⟨c, 19, none⟩ _ rfl).set' ⟨c, 2, none⟩ _ rfl) (fun g hg => (S0.out.op g hg).2.1)
  have FW : Aside (Fr (CurOwn c p kb base pb) w ((((w.drewN (z1 + z2)).setCell ⟨c, 1, none⟩ (.int .i64 0)).setCell ⟨c, 19, none⟩ (.bool false)).setCell ⟨c, 2, none⟩ (.int .i64 0))) :=
    ((((Fr.refl (CurOwn c p kb base pb) w).drewN' _).set' ⟨c, 1, none⟩ _ (Or.inl rfl)).set' ⟨c, 19, none⟩ _ (Or.inl rfl)).set' ⟨c, 2, none⟩ _ (Or.inl rfl)
  generalize ((((w.drewN (z1 + z2)).setCell ⟨c, 1, none⟩ (.int .i64 0)).setCell ⟨c, 19, none⟩ (.bool false)).setCell ⟨c, 2, none⟩ (.int .i64 0)) = W at P FW ⊢
  clear c0 c1 c2 c19 f1 f2 f19 kp tb tb0 hcon ne1 ne2
  have tb := P.out.tl.blocks
  have tb0 := P.out.tl.bs 0 n1
  refine wp_region_last 9 mixed rfl (by kernel_rfl) (by kernel_rfl) ?_
  simp only [List.take_succ_cons, List.take_zero]
  repeat (go_big_quiet_step (fail))
  refine wpQuiet_nil ?_
  intro _ hw'
  obtain ⟨nq, hw''⟩ := hw'
  subst hw''
  have hcon := seek_cur (P.out.drewN nq)
  go_wp2_with (go_at_call 22; refine hcon.mono ?_; rintro e w' ⟨rfl, X⟩)
  go_ret
  exact ⟨rfl, X.from (FW.out.drewN' nq) (fun g hg => Or.inl hg)⟩
end Go.Proofs.YbulkbyweFmt
