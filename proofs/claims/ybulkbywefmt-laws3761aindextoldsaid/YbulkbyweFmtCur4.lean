import Derived.Test.YbulkbyweFmtCur3
import Derived.Test.YbulkbyweFmtReg2
namespace Go.Proofs.YbulkbyweFmt
open Go.Shelf Go.RowKit Go.Lib Go.Proofs

theorem append_prev (ty : TypeId) (W : World) (pb : Option Addr) (pl pc k ck h x : Nat) (PV : CkS W pb pl pc) (k0 : W.cell? ⟨k, 0, none⟩ = some (.int .i32 h)) (k1 : W.cell? ⟨k, 1, none⟩ = some (.int .u64 x)) :
    ∃ g cap w1, (Builtin.append_ #[78, 78] ty #[.slice pb 0 pc, .slice (some ⟨k, 0, none⟩) 1 ck]).run Ybaf.prog W = .ok (.slice (some ⟨g, 0, none⟩) 1 cap) w1 ∧ CkS w1 (some ⟨g, 0, none⟩) 1 cap ∧ (AtB pb g ∨ W.heap.size ≤ g) ∧ Fr (AtB pb) W w1 := by
  obtain ⟨i0, hi, hz0, hz1, hz2⟩ := info_parts Ybaf.info107
  have hn : ∀ j u, [Value.int .i32 h, Value.int .u64 x][j]? = some u → W.cell? ((⟨k, 0, none⟩ : Addr).add j) = some u := by
    intro j u hj
    match j, hj with
    | 0, hj => simp at hj; subst hj; simpa [Addr.add] using k0
    | 1, hj => simp at hj; subst hj; simpa [Addr.add] using k1
  have ho : ∀ u ∈ [Value.int .i32 h, Value.int .u64 x], u.oneCell' = true := by
    intro u hu
    simp at hu
    rcases hu with rfl | rfl <;> rfl
  cases hp : pb with
  | none =>
    have e := PV.nil hp
    subst e
    obtain ⟨v', w1, hr, hown, hg, hnil⟩ := run_append_own (P := Ybaf.prog) W W.heap.size 78 ty 107 i0 _ 2 16 Ybaf.underlying78 hi hz0 hz1 hz2 rfl (by decide) (.slice none 0 0) 0 [] (World.ownsRow_nil _ _ _ _) ⟨k, 0, none⟩ 1 ck [.int .i32 h, .int .u64 x] rfl hn ho (by unfold maxLen; omega) (by omega) (Nat.le_refl _)
    rcases hown.2 with ⟨-, h0⟩ | ⟨g, cap, cur, rfl, hb, hgg, hc1, hc2, hc3, -⟩
    · omega
    · refine ⟨g, cap, w1, hr, ⟨by omega, by unfold maxLen at hc2; omega, by simp, fun a ha => ?_⟩, Or.inr hb, Fr.grown hg (by simp [Value.ownBlock])⟩
      cases ha
      exact ⟨g, cur, rfl, hgg, hc3, by omega⟩
  | some a =>
    obtain ⟨g, cur, rfl, hg, hsz, h1⟩ := PV.row a hp
    have hr := run_append_room (P := Ybaf.prog) W 78 ty 107 i0 Ybaf.underlying78 hi g 0 pc cur hg ⟨k, 0, none⟩ 1 ck [.int .i32 h, .int .u64 x] (by rw [hz1]; rfl) hn ho (by omega) (by simp; omega)
    refine ⟨g, pc, _, hr, ?_, Or.inl ⟨_, rfl, rfl⟩, ?_⟩
    · refine ⟨by omega, PV.cap, by simp, fun a ha => ?_⟩
      cases ha
      refine ⟨g, _, rfl, setRow_heap W g cur _ 107 (0, 0) hg, ?_, h1⟩
      simp
      omega
    · refine ⟨rfl, rfl, rfl, by rw [size_setRow]; exact Nat.le_refl _, fun q _ hq => setRow_other _ _ _ _ fun e => hq ⟨_, rfl, e.symm⟩⟩

def S6 (c : Nat) (pb : Option Addr) (pl pc k ck : Nat) (W : World) : Prop := W.cell? ⟨c, 17, none⟩ = some (.slice pb pl pc) ∧ W.cell? ⟨c, 9, none⟩ = some (.slice (some ⟨k, 0, none⟩) 1 ck)

set_option maxHeartbeats 2000000 in
set_option maxRecDepth 100000 in
theorem cnext_more (d : TD) (w : World) (N c p i : Nat) (v0 kb base pb : Option Addr) (l ck L C pl pc : Nat) (D : Nat → Value) (S : Cst d w N c p i v0 kb base pb l ck L C pl pc D) (hi : 1 ≤ i) (hn : i < d.n) :
    Calls Ybaf.prog 12 #[.pointer (some ⟨c, 0, none⟩)] w fun e w' => e = .returned (.bool true) ∧ CNx d w w' N c p (i + 1) kb base pb := by
  have mixed := Ybaf.laysUv.mixed
  obtain ⟨k, rfl, rfl, k0, k1⟩ := S.clk hi
  obtain ⟨m, hm⟩ : ∃ m : Nat, i - 1 = m := ⟨_, rfl⟩
  have hv : v0 = some ⟨d.blk m, 0, none⟩ := by
    rcases S.v0_ with ⟨h, -⟩ | ⟨-, h⟩
    · omega
    · rw [h, hm]
  subst hv
  have mz : (i : Int) - 1 = (m : Int) := by omega
  have c0 := S.rcd.at 0 (by omega) (a := 0) rfl S.d0
  have c1 := S.rcd.at 1 (by omega) (a := 1) rfl (v := .int .i64 m) (by rw [S.d1, mz])
  have c2 := S.rcd.at 2 (by omega) (a := 2) rfl (v := .int .i64 m) (by rw [S.d2 hi, mz])
  have c3 := S.rcd.at 3 (by omega) (a := 3) rfl S.d3
  have c4 := S.rcd.at 4 (by omega) (a := 4) rfl S.d4
  have c9 := S.rcd.at 9 (by omega) (a := 9) rfl S.d9
  have c11 := S.rcd.at 11 (by omega) (a := 11) rfl S.d11
  have c17 := S.rcd.at 17 (by omega) (a := 17) rfl S.d17
  have c18 := S.rcd.at 18 (by omega) (a := 18) rfl S.d18
  have f17 := S.rcd.nf 17 (by omega) (a := 17) rfl
  have n2 := S.tl.n2
  have kp := S.kept
  have b5 := (S.tl.bk m (by omega)).n_
  have hcon := fun q => len21 d w N S.tl S.kept q
  have r1 : IntKind.i64.wrap ((m : Int) + 1) = (i : Int) := by rw [IntKind.wrap_i64]; omega
  have e1 : ¬ (d.n : Int) ≤ (i : Int) := by omega
  have e3 : (0 : Int) ≤ (m : Int) := by omega
  have ne1 := nil45e
  have ne2 := nil45n
  have hb2 : bits BinOp.and IntKind.u8 1 2 = 0 := by kernel_rfl
  have ct : c ≠ d.t := by have := S.nc; have := S.tl.ltT; omega
  have cb : c ≠ d.bb := by have := S.nc; have := S.tl.ltT; omega
  have sl0 := S.pv.run0
  have S0 : Aside _ := S
  have HM : Hid (i - 1 = m) := hm
  clear S hm mz
  go_enter Ybaf.func12, Ybaf.ntmps12
  go_wp2_with fail
  go_quiet (exact Calls.quiet_of_same (hcon _))
  generalize nq = z1
  clear nq
  go_wp2_with fail
  go_quiet (fail)
  generalize nq = z2
  clear nq
  go_upto_region 6 with (fail)
  have S1 : Aside (S6 c pb pl pc k ck (w.drewN (z1 + z2))) := ⟨c17, c9⟩
  have F1 : Aside (Fr (fun _ => False) w (w.drewN (z1 + z2))) := Fr.drewN _ _
  generalize w.drewN (z1 + z2) = W0 at S1 F1 ⊢
  clear c0 c1 c2 c3 c4 c9 c11 c17 c18 b5 kp hcon ne1 hb2 e1 z1 z2
  have F1d : Fr (fun _ => False) w W0.drew := F1.out.drewN' 1
  obtain ⟨g, cap, w1, hr, PV1, OW, FA⟩ := append_prev 78 W0.drew pb pl pc k ck d.h (d.ps (i - 1)) (S0.out.pv.fr F1d (by simp)) (F1d.cell k0 (by simp)) (F1d.cell k1 (by simp))
  haveI inst : Inhabited (KeepS (S6 c pb pl pc k ck)) := ⟨⟨W0, S1.out⟩⟩
  have k17 : ∀ q : KeepS (S6 c pb pl pc k ck), q.W.cell? ⟨c, 17, none⟩ = some (.slice pb pl pc) := fun q => q.h.1
  have k9 : ∀ q : KeepS (S6 c pb pl pc k ck), q.W.cell? ⟨c, 9, none⟩ = some (.slice (some ⟨k, 0, none⟩) 1 ck) := fun q => q.h.2
  have k9' : ∀ q : KeepS (S6 c pb pl pc k ck), q.W.cell? ⟨c, 3 + 3 + 3, none⟩ = some (.slice (some ⟨k, 0, none⟩) 1 ck) := k9
  have NXc : ¬ AtB pb c := fun e => (S0.out.op c e).2.1 rfl
  have SA : S6 c pb pl pc k ck w1 := ⟨FA.cell S1.out.1 NXc, FA.cell S1.out.2 NXc⟩
  have fA : w1.frozen? ⟨c, 17, none⟩ = false := FA.frozen (w := W0.drew) S1.out.1 NXc (F1.out.frozen (S0.out.rcd.at 17 (by omega) (a := 17) rfl S0.out.d17) (by simp) f17)
  have SA0 : Aside _ := SA
  have PV0 : Aside _ := PV1
  have OW0 : Aside _ := OW
  have FA0 : Aside _ := FA
  have wA := SA.1
  clear SA PV1 OW FA f17
  refine wp_region_one_lit 15 12 [0, 1, 2, 3, 4, 5, 6, 7, 8, 9, 10, 11] [13, 14] (C := fun w' => ∃ q : KeepS (S6 c pb pl pc k ck), w' = q.W) mixed rfl rfl (by kernel_rfl) (by kernel_rfl) (by kernel_rfl) (by kernel_rfl) (by kernel_rfl) (by kernel_rfl) (by kernel_rfl) (by kernel_rfl) (by kernel_rfl) (by kernel_rfl) rfl (by intro _ _ d _ _ h; simp (config := { zetaDelta := true }) only [Exit.then, bodyPost] at h ⊢; cases d <;> exact h) ⟨⟨W0.drew, S1.out⟩, rfl⟩ ?_
  simp only [List.take_succ_cons, List.take_zero, List.filterMap_cons, List.filterMap_nil, List.getElem?_cons_succ, List.getElem?_cons_zero]
  repeat (quiet_step (fail))
  refine wpQuiet_nil ?_
  refine Lib.wpList_append_run _ rfl (.tmp 85) (.tmp 91) 78 78 rfl _ _ rfl rfl _ _ hr ?_
  go_wp2_with fail
  refine ⟨⟨⟨w1, SA0.out⟩, rfl⟩, ?_⟩
  repeat (quiet_step (fail))
  refine wpQuiet_nil ?_
  clear k17 k9 k9' inst hr sl0
  go_upto_region 7 with (fail)
  have cw : c < W0.heap.size := World.block_lt_of_cell? W0 ⟨c, 17, none⟩ S1.out.1
  have gc : g ≠ c := by
    rcases OW0.out with h | h
    · exact (S0.out.op g h).2.1
    · exact fun e => by subst e; exact absurd cw (Nat.not_lt.2 h)
  have R2 : Aside (Rec (w1.setCell ⟨c, 17, none⟩ (.slice (some ⟨g, 0, none⟩) 1 cap)) c 0 20 (updB D 17 (.slice (some ⟨g, 0, none⟩) 1 cap))) :=
    ((S0.out.rcd.fr F1d (by simp)).fr FA0.out NXc).set' 17 (by omega) _ rfl _
  have F2 : Aside (Fr (fun k => k = c ∨ AtB pb k) w (w1.setCell ⟨c, 17, none⟩ (.slice (some ⟨g, 0, none⟩) 1 cap))) :=
    (F1d.trans FA0.out (Z := fun k => k = c ∨ AtB pb k) (fun _ h => h.elim) (fun _ _ h => Or.inr h)).set' ⟨c, 17, none⟩ _ (Or.inl rfl)
  have PV2 : Aside (CkS (w1.setCell ⟨c, 17, none⟩ (.slice (some ⟨g, 0, none⟩) 1 cap)) (some ⟨g, 0, none⟩) 1 cap) := PV0.out.fr (Fr.setCell (X := fun k => k = c) w1 ⟨c, 17, none⟩ _ rfl) (by rintro g' ⟨a, ha, rfl⟩; cases ha; exact gc)
  have OW2 : Aside (∀ g', AtB (some ⟨g, 0, none⟩) g' → AtB pb g' ∨ w.heap.size ≤ g') := by
    rintro g' ⟨a, ha, rfl⟩
    cases ha
    exact OW0.out.imp id fun h => Nat.le_trans F1d.size h
  generalize w1.setCell ⟨c, 17, none⟩ (.slice (some ⟨g, 0, none⟩) 1 cap) = w2 at R2 F2 PV2 ⊢
  clear S1 F1 F1d fA SA0 PV0 OW0 FA0 wA cw gc k0 k1 w1 W0
  have NXN : ∀ k, k < N → ¬ (k = c ∨ AtB pb k) := fun k hk e => by
    have := S0.out.nc
    rcases e with e | e
    · omega
    · have := S0.out.op k e; omega
  have T2 := S0.out.tl.fr F2.out NXN
  have c0 := R2.out.at 0 (by omega) (a := 0) rfl (v := .pointer (some ⟨d.t, 0, none⟩)) S0.out.d0
  have c1 := R2.out.at 1 (by omega) (a := 1) rfl (v := .int .i64 m) (by show D 1 = _; rw [S0.out.d1]; have := HM.out; congr 1; omega)
  have c2 := R2.out.at 2 (by omega) (a := 2) rfl (v := .int .i64 m) (by show D 2 = _; rw [S0.out.d2 hi]; have := HM.out; congr 1; omega)
  have c3 := R2.out.at 3 (by omega) (a := 3) rfl (v := .pointer (some ⟨d.blk m, 0, none⟩)) S0.out.d3
  have c4 := R2.out.at 4 (by omega) (a := 4) rfl (v := .int .i64 0) S0.out.d4
  have c19 := R2.out.at 19 (by omega) (a := 19) rfl rfl
  have f1 := R2.out.nf 1 (by omega) (a := 1) rfl
  have f2 := R2.out.nf 2 (by omega) (a := 2) rfl
  have f19 := R2.out.nf 19 (by omega) (a := 19) rfl
  have kp := F2.out.cell S0.out.kept (NXN _ S0.out.tl.ltT.1)
  have b5 := (T2.bk m (by have := HM.out; omega)).n_
  have cbm : c ≠ d.blk m := by have := S0.out.nc; have := (T2.ltB m (by have := HM.out; omega)).1; omega
  have iz : ((i : Int) == 0) = false := by simp; omega
  clear T2 NXN
  go_upto_region 16 with (fail)
  go_quiet (fail)
  generalize nq = z1
  clear nq
  go_upto_region 10 with (fail)
  have P : Aside (Pre d ((((w2.setCell ⟨c, 1, none⟩ (.int .i64 i)).setCell ⟨c, 19, none⟩ (.bool false)).drewN z1).setCell ⟨c, 2, none⟩ (.int .i64 i)) N c p i (some ⟨d.blk m, 0, none⟩) (some ⟨k, 0, none⟩) base (some ⟨g, 0, none⟩) 1 ck L C 1 cap (updB (updB (updB (updB D 17 (.slice (some ⟨g, 0, none⟩) 1 cap)) 1 (.int .i64 i)) 19 (.bool false)) 2 (.int .i64 i))) := by
    refine S0.out.pre hn ((((R2.out.set' 1 (by omega) _ rfl _).set' 19 (by omega) _ rfl _).drewN _).set' 2 (by omega) _ rfl _) ?_ rfl rfl rfl (fun j h1 h2 h3 h4 => by simp [updB, h1, h2, h3, h4]) ?_ OW2.out
    · exact (((F2.out.set' ⟨c, 1, none⟩ _ (Or.inl rfl)).set' ⟨c, 19, none⟩ _ (Or.inl rfl)).drewN' _).set' ⟨c, 2, none⟩ _ (Or.inl rfl)
    · refine PV2.out.fr (((((Fr.refl (fun k => k = c) w2).set' ⟨c, 1, none⟩ _ rfl).set' ⟨c, 19, none⟩ _ rfl).drewN' _).set' ⟨c, 2, none⟩ _ rfl) fun g' hg e => ?_
      subst e
      rcases OW2.out _ hg with h | h
      · exact (S0.out.op _ h).2.1 rfl
      · have := World.block_lt_of_cell? w ⟨g', 0 + 0, none⟩ (S0.out.rcd.cell 0 (by omega))
        exact absurd this (Nat.not_lt.2 h)
  have FW : Aside (Fr (CurOwn c p (some ⟨k, 0, none⟩) base pb) w ((((w2.setCell ⟨c, 1, none⟩ (.int .i64 i)).setCell ⟨c, 19, none⟩ (.bool false)).drewN z1).setCell ⟨c, 2, none⟩ (.int .i64 i))) :=
    (((F2.out.weak (Z := CurOwn c p (some ⟨k, 0, none⟩) base pb) (fun _ h => h.elim Or.inl fun h => Or.inr (Or.inr (Or.inr (Or.inr h))))).set' ⟨c, 1, none⟩ _ (Or.inl rfl)).set' ⟨c, 19, none⟩ _ (Or.inl rfl)).drewN' _ |>.set' ⟨c, 2, none⟩ _ (Or.inl rfl)
  have cell2 : ((((w2.setCell ⟨c, 1, none⟩ (.int .i64 i)).setCell ⟨c, 19, none⟩ (.bool false)).drewN z1).setCell ⟨c, 2, none⟩ (.int .i64 i)).cell? ⟨c, 2, none⟩ = some (.int .i64 i) := P.out.rcd.at 2 (by omega) (a := 2) rfl rfl
  generalize (((w2.setCell ⟨c, 1, none⟩ (.int .i64 i)).setCell ⟨c, 19, none⟩ (.bool false)).drewN z1).setCell ⟨c, 2, none⟩ (.int .i64 i) = W at P FW cell2 ⊢
  clear c0 c1 c2 c3 c4 c19 f1 f2 f19 kp b5 R2 F2 PV2 z1 iz ne2
  have tb := P.out.tl.blocks
  have tbi := P.out.tl.bs i hn
  have e5 : (i : Int) < (d.n : Int) := by omega
  refine wp_region_last 13 mixed rfl (by kernel_rfl) (by kernel_rfl) ?_
  simp only [List.take_succ_cons, List.take_zero]
  repeat (go_big_quiet_step (fail))
  refine wpQuiet_nil ?_
  intro _ hw'
  obtain ⟨nq, hw''⟩ := hw'
  subst hw''
  have hcon := seek_cur (P.out.drewN nq)
  go_wp2_with (go_at_call 22; refine hcon.mono ?_; rintro e w' ⟨rfl, X⟩)
  go_ret
  exact ⟨rfl, X.from (FW.out.drewN' nq) OW2.out⟩

theorem Cst.drewN {d : TD} {w : World} {N c p i : Nat} {v0 kb base pb : Option Addr} {l ck L C pl pc : Nat} {D : Nat → Value} (S : Cst d w N c p i v0 kb base pb l ck L C pl pc D) (q : Nat) : Cst d (w.drewN q) N c p i v0 kb base pb l ck L C pl pc D :=
  have F : Fr (fun _ => False) w (w.drewN q) := Fr.drewN w q
  { S with rcd := S.rcd.drewN q, cks := S.cks.fr F (by simp), pv := S.pv.fr F (by simp), ats := S.ats.fr F (by simp) (by simp), tl := S.tl.fr F (by simp), kept := S.kept, clk := S.clk }

/-- cursor.next, where there is an event more. -/
theorem cnext12 (d : TD) (w : World) (N c p i : Nat) (v0 kb base pb : Option Addr) (l ck L C pl pc : Nat) (D : Nat → Value) (S : Cst d w N c p i v0 kb base pb l ck L C pl pc D) (hn : i < d.n) :
    Calls Ybaf.prog 12 #[.pointer (some ⟨c, 0, none⟩)] w fun e w' => e = .returned (.bool true) ∧ CNx d w w' N c p (i + 1) kb base pb := by
  by_cases h : i = 0
  · have := cnext_first d w N c p i v0 kb base pb l ck L C pl pc D S h
    rw [h]; exact this
  · exact cnext_more d w N c p i v0 kb base pb l ck L C pl pc D S (by omega) hn
end Go.Proofs.YbulkbyweFmt
