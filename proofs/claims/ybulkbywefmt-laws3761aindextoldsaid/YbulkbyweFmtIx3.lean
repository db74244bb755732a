import Derived.Test.YbulkbyweFmtSx2
namespace Go.Proofs.YbulkbyweFmt
open Go.Shelf Go.RowKit Go.Lib Go.Sort Go.Proofs
open Go.Extern.Stop Go.Stop Go.Extern

set_option maxHeartbeats 8000000 in
set_option maxRecDepth 100000 in
theorem index5 (F : Interp) (w : World) (hF : F.answers w.tape) (lg fb fc nb nc ta : Nat) (dd : Nat → TD) (hT : ∀ k x, k < 2 → x < 18446744073709551616 → (tx F (hostS k) x).size ≤ 1000)
    (G : LogAt w lg fb fc nb nc) (hta : ∀ k, k < 2 → w.cell? ⟨ta, k, none⟩ = some (.pointer (some ⟨(dd k).t, 0, none⟩))) (TS : ∀ k, k < 2 → TLo (dd k) w 0 w.heap.size) (hh : ∀ k, k < 2 → (dd k).h = k)
    (A01 : Away (dd 0) (dd 1).t) (A10 : Away (dd 1) (dd 0).t) (hl : ∀ k, k < 2 → lg ≠ (dd k).t ∧ fb ≠ (dd k).t ∧ nb ≠ (dd k).t ∧ ta ≠ (dd k).t) :
    Calls Ybaf.prog 5 #[.pointer (some ⟨lg, 0, none⟩), .slice (some ⟨ta, 0, none⟩) 2 2] w fun e w' => ∃ pv, e = .returned pv ∧ IxR w w' w.heap.size 2 dd pv := by
  have mixed := Ybaf.laysUv.mixed
  have F0 : Aside _ := hF
  have HT : Aside _ := hT
  have G0 : Aside _ := G
  have TA : Aside _ := hta
  have TS0 : Aside _ := TS
  have HH : Aside _ := hh
  have AW : Aside _ := And.intro A01 A10
  have HL : Aside _ := hl
  have HG : Aside (lg < w.heap.size ∧ fb < w.heap.size ∧ nb < w.heap.size ∧ ta < w.heap.size) := ⟨World.block_lt_of_cell? w ⟨lg, 0, none⟩ G.files, World.block_lt_of_cell? w ⟨fb, 0, none⟩ G.fname, World.block_lt_of_cell? w ⟨nb, 0, none⟩ G.n0, World.block_lt_of_cell? w ⟨ta, 0, none⟩ (hta 0 (by omega))⟩
  clear hF hT G hta TS hh A01 A10 hl
  go_enter Ybaf.func5, Ybaf.ntmps5
  go_wp2_with fail
  have I0 : Aside (IxR w (w.alloc (.cells #[.slice none 0 0] 71)) w.heap.size 0 dd (.slice none 0 0)) :=
    ⟨⟨[], rfl, by simp, World.ownsRow_nil _ _ _ _⟩, ⟨none, 0, 0, ⟨by simp, by have := (rec_new w #[.slice none 0 0] 71).free 0 (by simp); exact this, Nat.le_refl _, by omega, fun _ => rfl, fun a h => by cases h⟩, by omega, fun g h => by obtain ⟨a, h, -⟩ := h; cases h⟩, fun k h1 _ => (TS0.out k h1).fr (Fr.alloc (X := fun _ => False) w _) (by simp), fun k h => by omega, Fr.alloc w _⟩
  obtain ⟨p, hp⟩ : ∃ p, w.heap.size = p := ⟨_, rfl⟩
  rw [hp] at I0 HG
  generalize w.alloc (.cells #[.slice none 0 0] 71) = W1 at I0 ⊢
  have HP : Hid (w.heap.size = p) := hp
  rw [hp]
  clear hp
  go_loopg [5, 21] 2 (fun kx s5 s21 wr => ∃ j : Nat, s21 = .int .i64 j ∧ j ≤ 2 ∧ 2 - j ≤ kx ∧ Aside (IxR w wr p j dd s5))
  case atStart => exact ⟨0, rfl, by omega, by omega, I0⟩
  case round =>
    clear I0
    obtain ⟨j, rfl, hj, hkx, I1⟩ := hrel
    by_cases hlt : j < 2
    · have e1 : (j : Int) < (2 : Int) := by omega
      have ct := I1.out.fr.cell (TA.out j hlt) (by
        have h1 := HG.out.2.2.2
        have h2 := (HL.out 0 (by omega)).2.2.2
        have h3 := (HL.out 1 (by omega)).2.2.2
        omega)
      obtain ⟨d, hd⟩ : ∃ d, dd j = d := ⟨_, rfl⟩
      have TJ := I1.out.ts j hlt (Nat.le_refl _)
      rw [hd] at ct TJ
      have hcon := inOrder10_any d wr 0 p TJ
      have HD : Aside _ := hd
      have TJ0 : Aside _ := TJ
      clear hd TJ
      go_upto_if 26 with (go_at_call 10; refine hcon.mono ?_; rintro e w1 ⟨rfl, q1, rfl⟩)
      have I2 : Aside _ := I1.out.fr0 (Fr.drewN (X := fun _ => False) wr q1)
      have T2 : Aside _ := TJ0.out.fr (Fr.drewN (X := fun _ => False) wr q1) (by simp)
      generalize wr.drewN q1 = W0 at I2 T2 ⊢
      clear I1 TJ0 hcon ct wr
      by_cases hr : runsB d.ps d.n = true
      · rw [hr]
        go_wp2_with fail
        go_roundg (2 - (j + 1))
        case measure => omega
        case rel =>
          refine ⟨j + 1, by go_num, by omega, Nat.le_refl _, ?_⟩
          obtain ⟨L5, h1, h2, h3⟩ := I2.out.pr
          obtain ⟨D, R, d5, d6⟩ := T2.out.rcd
          refine ⟨⟨L5, by rw [prs_succ, HD.out, prd, if_pos hr, List.append_nil]; exact h1, by omega, h3⟩, I2.out.at_, fun k h4 h5 => I2.out.ts k h4 (by omega), fun k h4 => ?_, I2.out.fr⟩
          by_cases e : k = j
          · subst e
            rw [HD.out]
            unfold TR
            rw [if_pos hr]
            exact ⟨R.at 5 (by omega) (a := 5) rfl d5, R.at 6 (by omega) (a := 6) rfl d6⟩
          · exact I2.out.tr k (by omega)
      · rw [Bool.not_eq_true] at hr
        rw [hr]
        have hn1 : 1 ≤ d.n := by
          refine Nat.succ_le_of_lt (Nat.pos_of_ne_zero fun h => ?_)
          rw [h] at hr
          cases hr
        have T3 : Aside (TL d W0 p) := T2.out.row hn1
        have n2 := T3.out.n2
        have kp : W0.cell? ⟨d.t, 5, none⟩ = some (.slice none 0 0) := by
          obtain ⟨D, R, d5, d6⟩ := T2.out.rcd
          exact R.at 5 (by omega) (a := 5) rfl d5
        have c3 := T3.out.n_
        obtain ⟨base0, L0, C0, hA, hL16, hbp⟩ := I2.out.at_
        have A0 : Aside _ := hA
        have BP : Aside _ := hbp
        clear hA hbp
        have hpw : Hid (p < W0.heap.size) := World.block_lt_of_cell? W0 ⟨p, 0, none⟩ A0.out.cell
        obtain ⟨i8, hi8, hz80, hz81, hz82⟩ := info_parts Ybaf.info87
        go_upto_block 2 with (first | (at_make; refine wpList_make_own _ rfl _ (.tmp 30) 73 rfl W0.heap.size 87 i8 _ 2 Ybaf.underlying73 hi8 hz80 hz81 .i64 .i64 d.n d.n rfl rfl rfl (by rw [hz82]; omega) (by unfold maxLen; omega) (Nat.le_refl _) ?_; intro w2 O2 G2; have kp2 := (Fr.grown (X := fun _ => False) G2 (by simp)).cell kp (by simp)) | (go_at_call 11; refine (cursor11 d w2 p p L0 C0 base0 (T3.out.fr (Fr.grown (X := fun _ => False) G2 (by simp)) (by simp)) kp2 (A0.out.fr (Fr.grown (X := fun _ => False) G2 (by simp)) (by simp) (by simp)) hL16 (Nat.le_refl _) (fun g hg => by have := BP.out g hg; omega) (by have := hpw.out; have := G2.size; omega)).mono ?_; rintro e w3 ⟨rfl, ⟨D0, C3⟩, F3⟩))
        have P0 : Aside (LP d W0 w3 p W0.heap.size w2.heap.size 0 0 (.slice (some ⟨W0.heap.size, 0, none⟩) 0 d.n) base0) := by
          refine ⟨⟨_, _, _, _, _, _, _, _, _, _, _, C3, fun g hg => ?_, fun g hg hc => ?_⟩, F3.owns O2 (by simp), by simp, ((Fr.grown (X := fun _ => False) G2 (by simp)).trans F3 (fun _ h => h) (fun _ _ h => h)).mono (fun _ _ h => h.elim)⟩
          · rcases hg with h | h | ⟨a, h, -⟩ | h | ⟨a, h, -⟩
            · have := G2.size; exact Or.inr (Or.inr (by omega))
            · exact Or.inl h
            · cases h
            · exact Or.inr (Or.inl h)
            · cases h
          · have hg' : W0.heap.size = g := by simpa [Value.ownBlock] using hg
            have hlt := (O2.lt g hg).2
            rcases hc with h | h | ⟨a, h, -⟩ | h | ⟨a, h, -⟩
            · omega
            · have := hpw.out; omega
            · cases h
            · have := A0.out.lt h; omega
            · cases h
        have hcg : Hid (W0.heap.size ≤ w2.heap.size) := G2.size
        clear C3 F3 O2 G2 kp2 D0
        obtain ⟨ge, hge⟩ : ∃ ge, W0.heap.size = ge := ⟨_, rfl⟩
        generalize w2.heap.size = c at P0 hcg ⊢
        clear w2
        rw [hge] at P0 hcg hpw ⊢
        have HGE : Hid (W0.heap.size = ge) := hge
        clear hge c3 kp
        go_cut [9] from 35 to 55 (fun s9 wd => Aside (LP d W0 wd p ge c d.n d.n s9 base0))
        case first => as_aux_lemma =>
          go_wp2_with fail
          go_loopg [9] d.n (fun kx s9 wr => ∃ i : Nat, i ≤ d.n ∧ d.n - i ≤ kx ∧ Aside (LP d W0 wr p ge c i i s9 base0))
          case atStart => exact ⟨0, by omega, by omega, P0⟩
          case round =>
            clear P0
            obtain ⟨i, hi, hkx, P1⟩ := hrel
            obtain ⟨v0, kb, base, pb, l, ck, L, C, pl, pc, D, C1, o1, o2⟩ := P1.out.cst
            by_cases hin : i < d.n
            · have hcon := cnext12 d wr p c p i v0 kb base pb l ck L C pl pc D C1 hin
              have HO : Aside _ := And.intro o1 o2
              clear C1 o1 o2
              go_upto_region 10 with (go_at_call 12; refine hcon.mono ?_; rintro e w4 ⟨rfl, N4⟩)
              have P2 : Aside _ := LP.next HO.out.1 HO.out.2 P1.out.row P1.out.nn P1.out.fr (by have := P1.out.fr.size; have := HGE.out; omega) N4
              clear P1 HO hcon N4
              obtain ⟨gv, cv, rfl, hgv, -⟩ := own_at P2.out.row P2.out.nn
              obtain ⟨v0', kb', base', pb', l', ck', L', C', pl', pc', D', C2, o3, o4⟩ := P2.out.cst
              obtain ⟨k, rfl, rfl, k0, k1⟩ := C2.clk (by omega)
              have S1 : Aside (S10 c d.t k ck' i d.h w4) := ⟨C2.rcd.at 9 (by omega) (a := 9) rfl C2.d9, C2.rcd.at 1 (by omega) (a := 1) rfl (by rw [C2.d1]; congr 1; omega), C2.tl.host⟩
              rw [show i + 1 - 1 = i by omega] at k1
              obtain ⟨x, hx⟩ : ∃ x, d.ps i = x := ⟨_, rfl⟩
              rw [hx] at k1
              have HX : Aside _ := hx
              have hgp : Hid (p < ge) := hpw
              have HV : Aside (∀ g, g = c ∨ g = d.t → ¬ (Value.slice (some ⟨gv, 0, none⟩) i cv).ownBlock = some g) := by
                refine fun g hg hx => ?_
                rcases hg with h | h
                · exact o4 g hx (Or.inl h)
                · have := C2.tl.ltT.1
                  have := (P2.out.row.lt g hx).1
                  have := hgp.out
                  omega
              clear hx C2 o3 o4
              have hcon := get13 k ck' d.h x w4.drew k0 k1
              haveI inst : Inhabited (KeepS (S10 c d.t k ck' i d.h)) := ⟨⟨w4, S1.out⟩⟩
              have q9 : ∀ q : KeepS (S10 c d.t k ck' i d.h), q.W.cell? ⟨c, 9, none⟩ = some (.slice (some ⟨k, 0, none⟩) 1 ck') := fun q => q.h.a
              have q9' : ∀ q : KeepS (S10 c d.t k ck' i d.h), q.W.cell? ⟨c, 3 + 3 + 3, none⟩ = some (.slice (some ⟨k, 0, none⟩) 1 ck') := fun q => q.h.a
              have q1 : ∀ q : KeepS (S10 c d.t k ck' i d.h), q.W.cell? ⟨c, 1, none⟩ = some (.int .i64 i) := fun q => q.h.b
              have qt : ∀ q : KeepS (S10 c d.t k ck' i d.h), q.W.cell? ⟨d.t, 0, none⟩ = some (.int .i32 d.h) := fun q => q.h.e
              refine wp_region_chain 19 [([0, 1, 2, 3, 4, 5, 6, 7, 8, 9, 10, 12, 13, 14, 15], 11), ([16], 17), ([], 18)] [] (C := fun w' => ∃ q : KeepS (S10 c d.t k ck' i d.h), w' = q.W) mixed rfl (by kernel_rfl) (by kernel_rfl) (by kernel_rfl) (by kernel_rfl) rfl (by intro _ _ d _ _ h; simp (config := { zetaDelta := true }) only [Exit.then, Exit.inBlock, bodyPost] at h ⊢; cases d <;> exact h) ?_
              simp only [chainEnd, List.map_cons, List.map_nil, List.take_succ_cons, List.take_zero, List.filterMap_cons, List.filterMap_nil, List.getElem?_cons_succ, List.getElem?_cons_zero]
              refine ⟨⟨⟨w4.drew, ⟨S1.out.a, S1.out.b, S1.out.e⟩⟩, rfl⟩, ?_⟩
              repeat (quiet_step (fail))
              refine wpQuiet_nil ?_
              go_wp2_with (go_at_call 13; refine hcon.mono ?_; rintro e w5 ⟨rfl, F5⟩)
              have S2 : S10 c d.t k ck' i d.h w5 := ⟨F5.cell S1.out.a (by simp), F5.cell S1.out.b (by simp), F5.cell S1.out.e (by simp)⟩
              have S3 : Aside _ := S2
              clear S2
              refine ⟨⟨⟨w5, S3.out⟩, rfl⟩, ?_⟩
              repeat (quiet_step (fail))
              refine wpQuiet_nil ?_
              go_wp2_with fail
              have FA := Fr.alloc (X := fun _ => False) w5 (.cells #[.int .u64 x, .int .i64 i] 87)
              refine ⟨⟨⟨w5.alloc (.cells #[.int .u64 x, .int .i64 i] 87), ⟨FA.cell S3.out.a (by simp), FA.cell S3.out.b (by simp), FA.cell S3.out.e (by simp)⟩⟩, rfl⟩, ?_⟩
              refine wpQuiet_nil ?_
              have PR := ((World.ownsRow.drewN0 w4 P2.out.row).fr0 F5).fr0 FA
              refine wpList_append_own_at _ rfl (.tmp 37) (.tmp 54) 73 rfl ge 87 i8 _ 2 16 Ybaf.underlying73 hi8 hz80 hz81 hz82 rfl (by decide) _ _ _ rfl PR ⟨w5.heap.size, 0, none⟩ 1 1 [.int .u64 x, .int .i64 i] rfl rfl (news2 w5 _ _ 87) (by intro u hu; simp at hu; rcases hu with rfl | rfl <;> rfl) (by unfold maxLen; omega) (by omega) (by have := P2.out.fr.size; have := HGE.out; have := F5.size; have : w4.drew.heap.size = w4.heap.size := rfl; simp; omega) ?_
              intro v6 w6 O6 G6 N6 A6
              have FQ : Fr (fun g => (Value.slice (some ⟨gv, 0, none⟩) i cv).ownBlock = some g) w4 w6 := ((((Fr.drew (X := fun _ => False) w4).trans F5 (fun _ h => h) (fun _ _ h => h)).trans FA (fun _ h => h) (fun _ _ h => h)).trans (Fr.grown (X := fun g => (Value.slice (some ⟨gv, 0, none⟩) i cv).ownBlock = some g) G6 (fun _ h => h)) (fun _ h => h.elim) (fun _ _ h => h))
              have P3 : Aside _ := P2.out.lay hgp.out FQ (fun g _ h => h) (by rw [evc_succ, HX.out]; exact O6) (fun h => by have := (N6.1 h).2; omega) (fun g hg => by
                rcases A6 with h | h
                · rw [h] at hg; exact Or.inl hg
                · rw [h] at hg
                  have e : (w5.alloc (.cells #[.int .u64 x, .int .i64 i] 87)).heap.size = g := by injection hg
                  have := FA.size; have := F5.size
                  have : w4.drew.heap.size = w4.heap.size := rfl
                  exact Or.inr (by omega))
              have S7 : Aside (S10 c d.t k ck' i d.h w6) := by
                have hne : ∀ g, g = c ∨ g = d.t → ¬ (Value.slice (some ⟨gv, 0, none⟩) i cv).ownBlock = some g := HV.out
                exact ⟨FQ.cell S1.out.a (hne _ (Or.inl rfl)), FQ.cell S1.out.b (hne _ (Or.inl rfl)), FQ.cell S1.out.e (hne _ (Or.inr rfl))⟩
              go_wp2_with fail
              refine ⟨⟨⟨w6, S7.out⟩, rfl⟩, ?_⟩
              refine wpQuiet_nil ?_
              clear q9 q9' q1 qt inst
              go_wp2_with fail
              go_roundg (d.n - (i + 1))
              case measure => omega
              case rel => exact ⟨i + 1, by omega, Nat.le_refl _, P3⟩
            · obtain rfl : i = d.n := by omega
              have hcon := cnext_end d wr p c p d.n v0 kb base pb l ck L C pl pc D C1 rfl
              clear C1 o1 o2
              go_wp2_with (go_at_call 12; refine hcon.mono ?_; rintro e w4 ⟨rfl, q4, rfl⟩)
              go_meet
              case rel => exact P1.out.drewN q4
        case rest =>
          clear P0
          obtain ⟨W2, hW2⟩ : ∃ W, W = wc := ⟨_, rfl⟩
          subst hW2
          have PL := hcut
          clear hcut
          obtain ⟨gv, cv, rfl, hgv, -⟩ := own_at PL.out.row PL.out.nn
          have E1 : Aside (EvR W2 gv d.n (evs d.ps d.n)) := EvR.ofOwn PL.out.row
          have hgs : Hid (gv < W2.heap.size) := (PL.out.row.lt gv rfl).2
          go_upto_if 59 with (go_at_call 16; refine (isSorted16 gv 0 cv d.n (evs d.ps d.n) W2 ⟨encP_len, encP_one, E1.out.holds, hgs.out⟩ (evs_size _ _) (by omega) (evs_idx _ _)).mono ?_; rintro e w3 ⟨bb, rfl, hb, SW⟩)
          have HB : Aside _ := hb
          have SW0 : Aside _ := SW
          clear hb SW
          go_cut [] (fun wc => Aside (Srt2 d W2 wc gv))
          case first =>
            cases bb with
            | true =>
              go_wp2_with fail
              go_meet
              case rel => exact srt2_of E1.out hgs.out SW0.out ⟨rfl, fun _ _ => rfl, List.Perm.refl _⟩ (HB.out (by simp))
            | false =>
              have F3 := SWK_fr SW0.out
              have E3 : EvR w3 gv d.n (evs d.ps d.n) := by
                obtain ⟨m, os, rfl⟩ := SW0.out
                exact EvR.ofHolds (evs_size _ _) (holdsK_sortWorldK_c (d := evs d.ps d.n) (dk := evs d.ps d.n) (m := m) (os := os) (hH := E1.out.holds) (hblk := hgs.out) (hs := rfl))
              have hcon := sort17 gv 0 cv d.n (evs d.ps d.n) w3 ⟨encP_len, encP_one, E3.holds, by have := F3.size; have := hgs.out; omega⟩ (evs_size _ _) (by omega) (evs_idx _ _)
              have E3' : Aside _ := E3
              have F3' : Aside _ := F3
              clear E3 F3
              go_wp2_with (go_at_call 17; refine hcon.mono ?_; rintro e w4 ⟨rfl, dk, ⟨h1, h2⟩, h3⟩)
              go_meet
              case rel =>
                obtain ⟨dS, a, b, c⟩ := srt2_of E3'.out (by have := F3'.out.size; have := hgs.out; omega) h3 h1 h2
                exact ⟨dS, a, b, F3'.out.trans c (fun _ h => h) (fun _ _ h => h)⟩
          case rest =>
            clear SW0 HB E1
            obtain ⟨W, hW⟩ : ∃ W, W = wc := ⟨_, rfl⟩
            subst hW
            have HPV : Aside (∀ k, k < 2 → (dd k).t < p) := fun k hk => by have := (TS0.out k hk).t0.2; have := HP.out; omega
            have hat : ∃ base L C, AtS W p base L C ∧ L ≤ 16 ∧ ∀ g, AtB base g → p < g := by
              obtain ⟨dS, hdS, E2, F2⟩ := hcut.out
              obtain ⟨v0, kb, base, pb, l, ck, L, C, pl, pc, D, C1, o1, o2⟩ := PL.out.cst
              have hgn : ∀ g, CurOwn c p kb base pb g → ¬ g = gv := fun g hg e => o2 g (by rw [e]; rfl) hg
              exact ⟨base, L, C, C1.ats.fr F2 (hgn p (Or.inr (Or.inl rfl))) (fun g hg => hgn g (Or.inr (Or.inr (Or.inr (Or.inl hg))))), C1.le, fun g hg => by have := C1.oa g hg; omega⟩
            have FW : Fr (fun g => g = p ∨ AtB base0 g ∨ ge ≤ g) W0 W := by
              obtain ⟨dS, hdS, E2, F2⟩ := hcut.out
              exact PL.out.fr.trans F2 (fun _ h => h) (fun k _ h => Or.inr (Or.inr (by omega)))
            have I3 : Aside (IxR w W p j dd u5) := I2.out.step HGE.out A0.out BP.out hpw.out HPV.out hj FW hat
            have T4 : Aside (TL d W p) := (HD.out ▸ I3.out.ts j hlt (Nat.le_refl _) : TLo d W 0 p).row hn1
            have R4' : Aside (∃ D, Rec W d.t 0 9 D ∧ D 5 = .slice none 0 0) := by
              obtain ⟨D, R, d5, d6⟩ := (HD.out ▸ I3.out.ts j hlt (Nat.le_refl _) : TLo d W 0 p).rcd
              exact ⟨D, R, d5⟩
            have G4 : Aside (LogAt W lg fb fc nb nc) := by
              have h1 := HG.out
              have h2 := HL.out 0 (by omega)
              have h3 := HL.out 1 (by omega)
              exact G0.out.fr I3.out.fr (by omega) (by omega) (by omega)
            have EV : Aside (∃ dS, dS.toList = srt d.ps d.n ∧ EvR W gv d.n dS) := by
              obtain ⟨dS, hdS, E2, F2⟩ := hcut.out
              exact ⟨dS, hdS, E2⟩
            have hvs : Hid (ge ≤ gv ∧ gv < W.heap.size) := by
              obtain ⟨dS, hdS, E2, F2⟩ := hcut.out
              have h1 : gv < W.heap.size := World.block_lt_of_cell? W ⟨gv, 0 * 2, none⟩ (E2.c0 0 (by omega))
              exact ⟨hgv, h1⟩
            have hvp : Aside (¬ u5.ownBlock = some gv) := fun h => by
              obtain ⟨L5, h1, h2, h3⟩ := I2.out.pr
              have := (h3.lt gv h).2
              have := HGE.out
              omega
            clear hcut PL hat FW I2 A0 BP T2 T3 hgs hgv
            have hdh : d.h = j := by rw [← HD.out]; exact HH.out j hlt
            have q0 := G4.out.names
            have q1 : W.cell? ⟨nb, j, none⟩ = some (.string (hostS j)) := by
              rcases (by omega : j = 0 ∨ j = 1) with e | e
              · subst e; exact G4.out.n0
              · subst e; exact G4.out.n1
            have q2 := T4.out.host
            rw [hdh] at q2
            have e2 : (0 : Int) ≤ (j : Int) := by omega
            clear hdh
            go_upto_region 14 with fail
            go_cut [12] (fun s12 wc => s12 = .string (hostS j) ∧ Aside (Fr (fun _ => False) W wc))
            case first =>
              go_quiet (fail)
              go_wp2_with fail
              go_meet
              case rel => exact ⟨rfl, Fr.drewN W nq⟩
            case rest =>
              obtain ⟨rfl, FZ0⟩ := hcut
              clear q0 q1 q2
              obtain ⟨Wb, hWb⟩ : ∃ W, W = wc := ⟨_, rfl⟩
              subst hWb
              have FZ := FZ0.out
              have I4 : Aside _ := I3.out.fr0 FZ
              have T5 : Aside _ := T4.out.fr FZ (by simp)
              have R5 : Aside (∃ D, Rec Wb d.t 0 9 D ∧ D 5 = .slice none 0 0) := by
                obtain ⟨D, R, h⟩ := R4'.out
                exact ⟨D, R.fr FZ (by simp), h⟩
              have G5 : Aside _ := G4.out.fr FZ (by simp) (by simp) (by simp)
              have EV5 : Aside (∃ dS, dS.toList = srt d.ps d.n ∧ EvR Wb gv d.n dS) := by
                obtain ⟨dS, hdS, E2⟩ := EV.out
                exact ⟨dS, hdS, E2.fr FZ (by simp)⟩
              have hvs' : Hid (ge ≤ gv ∧ gv < Wb.heap.size) := by have h1 := hvs.out; have h2 := FZ.size; exact ⟨h1.1, by omega⟩
              clear I3 T4 R4' G4 EV hvs FZ FZ0 W
              obtain ⟨i3, hi3, hz30, hz31, hz32⟩ := info_parts Ybaf.info3
              obtain ⟨i6, hi6, hz60, hz61, hz62⟩ := info_parts Ybaf.info60
              have TT : Aside (∀ W' : World, Fr (fun _ => False) Wb W' → W'.cell? ⟨d.t, 6, none⟩ ≠ none ∧ W'.frozen? ⟨d.t, 6, none⟩ = false) := fun W' f => by
                obtain ⟨D, R, -⟩ := R5.out
                have h1 := (R.fr f (by simp)).cell 6 (by omega)
                have h2 := (R.fr f (by simp)).free 6 (by omega)
                rw [Nat.zero_add] at h1 h2
                exact ⟨by rw [h1]; simp, h2⟩
              go_upto_block 4 with (first | (at_make; refine wpList_make_own _ rfl _ (.tmp 75) 45 rfl Wb.heap.size 3 i3 _ 1 Ybaf.underlying45 hi3 hz30 hz31 .i64 .i64 d.n d.n rfl rfl rfl (by rw [hz32]; omega) (by unfold maxLen; omega) (Nat.le_refl _) ?_; intro w3 O3 G3) | (at_make; refine wpList_make_own _ rfl _ (.tmp 79) 22 rfl Wb.heap.size 60 i6 _ 1 Ybaf.underlying22 hi6 hz60 hz61 .i64 .i64 d.n d.n rfl rfl rfl (by rw [hz62]; omega) (by unfold maxLen; omega) G3.size ?_; intro w4 O4 G4; have t6 := TT.out w4 ((Fr.grown (X := fun _ => False) G3 (by simp)).trans (Fr.grown (X := fun _ => False) G4 (by simp)) (fun _ h => h) (fun _ _ h => h)); obtain ⟨v6, hv6⟩ := Option.ne_none_iff_exists'.1 t6.1; have hf6 := t6.2; clear t6))
              have B0 : Aside (∃ D0 dS, (SC d Wb p Wb.heap.size lg fb fc nb nc gv dS u5 D0 ∧ dS.toList = srt d.ps d.n) ∧ ∃ qv L5, SX d Wb (w4.setCell ⟨d.t, 6, none⟩ (.slice (some ⟨w3.heap.size, 0, none⟩) 0 d.n)) p Wb.heap.size u5 u5 (.slice (some ⟨Wb.heap.size, 0, none⟩) 0 d.n) qv L5 [] [] D0 ∧ L5.map (·.1) = prs dd j ∧ L5.length ≤ 512 * j) := by
                obtain ⟨D, R, h5⟩ := R5.out
                obtain ⟨dS, hdS, E2⟩ := EV5.out
                obtain ⟨L5, h1, h2, h3⟩ := I4.out.pr
                have hl := HL.out j hlt
                rw [HD.out] at hl
                have hg := HG.out
                have hv := hvs'.out
                have hp := hpw.out
                have htp := T5.out.ltT.1
                have f3 : Fr (fun _ => False) Wb w3 := Fr.grown G3 (by simp)
                have f4 : Fr (fun _ => False) w3 w4 := Fr.grown G4 (by simp)
                have f34 := f3.trans f4 (Z := fun _ => False) (fun _ h => h) (fun _ _ h => h)
                have fs : Fr (fun k => k = d.t) w4 (w4.setCell ⟨d.t, 6, none⟩ (.slice (some ⟨w3.heap.size, 0, none⟩) 0 d.n)) := Fr.setCell _ _ _ rfl
                have hr4 : R4 (p + 1) Wb.heap.size w4 u5 (.slice (some ⟨Wb.heap.size, 0, none⟩) 0 d.n) (.slice (some ⟨w3.heap.size, 0, none⟩) 0 d.n) L5.length (pcI L5) [] [] :=
                  ⟨f34.owns h3 (by simp), f4.owns O3 (by simp), O4, by simp, by simp⟩
                refine ⟨D, dS, ⟨⟨E2, by omega, hvp.out, G5.out, ⟨hg.1, hg.2.1, hg.2.2.1⟩, ⟨hl.1, hl.2.1, hl.2.2.1⟩, T5.out, R, h5, fun g hg => (h3.lt g hg).1, Nat.le_refl _, srt2_tags hdS⟩, hdS⟩, _, L5, ⟨hr4.fr fs (fun k hk e => by omega) (fun k hk e => by omega), fun g hg => Or.inl hg, ?_, ((f34.mono (fun _ _ h => h.elim)).trans fs (fun _ h => h) (fun _ _ h => Or.inl h))⟩, h1, h2⟩
                have r := (R.fr f34 (by simp)).set 6 (by omega) (.slice (some ⟨w3.heap.size, 0, none⟩) 0 d.n)
                rw [Nat.zero_add] at r
                exact r
              generalize w4.setCell ⟨d.t, 6, none⟩ (.slice (some ⟨w3.heap.size, 0, none⟩) 0 d.n) = w5 at B0 ⊢
              obtain ⟨G, hG⟩ : ∃ G, Wb.heap.size = G := ⟨_, rfl⟩
              rw [hG] at B0
              simp only [hG]
              have HWG : Hid (Wb.heap.size = G) := hG
              generalize w3.heap.size = gq0
              obtain ⟨pv0, hpv0⟩ : ∃ pv0, pv0 = u5 := ⟨_, rfl⟩
              subst hpv0
              clear hG O3 G3 O4 G4 hv6 hf6 TT R5 T5 G5 EV5 w4 w3 hvs' hvp
              obtain ⟨D0, dS, ⟨hC, hdS⟩, hS⟩ := B0.out
              have C4 : Aside _ := hC
              have HDS : Aside _ := hdS
              have S4 : Aside _ := hS
              clear hC hdS hS B0
              go_cut [5, 13] from 85 to 184 (fun s5 s13 wd => Aside (∃ qv L5, SX d Wb wd p G pv0 s5 s13 qv L5 (scn d.sk d.ps d.n d.n).ks (scn d.sk d.ps d.n d.n).qs D0 ∧ L5.map (·.1) = prs dd j ++ (scn d.sk d.ps d.n d.n).pr ∧ L5.length ≤ 512 * j + d.n))
              case first =>
                go_wp2_with fail
                go_loopg [5, 13, 85] d.n (fun kx s5 s13 s85 wr => ∃ i : Nat, s85 = .int .i64 i ∧ i ≤ d.n ∧ d.n - i ≤ kx ∧ Aside (∃ qv L5, SX d Wb wr p G pv0 s5 s13 qv L5 (scn d.sk d.ps d.n i).ks (scn d.sk d.ps d.n i).qs D0 ∧ L5.map (·.1) = prs dd j ++ (scn d.sk d.ps d.n i).pr ∧ L5.length ≤ 512 * j + i))
                case atStart =>
                  obtain ⟨qv, L5, h1, h2, h3⟩ := S4.out
                  exact ⟨0, rfl, by omega, by omega, ⟨qv, L5, h1, by rw [h2]; simp [scn, Sc.run], by omega⟩⟩
                case round =>
                  clear S4
                  obtain ⟨i, rfl, hi, hkx, S5⟩ := hrel
                  by_cases hin : i < d.n
                  · have e3 : (i : Int) < (d.n : Int) := by omega
                    have e4 : (0 : Int) ≤ (i : Int) := by omega
                    obtain ⟨x1, x2, hx, hx2, hx3, hx4, hx5⟩ := scn_step d.sk d.ps d.n i hin
                    obtain ⟨qv, L5, S6, hLm, hLl⟩ := S5.out
                    have hd : dS[i]! = (x1, x2) := by
                      obtain ⟨y1, y2, h1, h2⟩ := C4.out.tags i hin
                      rw [List.getElem?_eq_getElem (by rw [srt_len]; exact hin), hx] at h2
                      rw [h1]; exact (Option.some.inj h2).symm
                    have a0 := (S6.ev C4.out).c0 i hin
                    have a1 := (S6.ev C4.out).c1 i hin
                    rw [hd] at a0 a1
                    dsimp only at a0 a1
                    have hx6 : x1 < 18446744073709551616 := by rw [hx3]; exact (C4.out.tl.bk x2 hx2).rng
                    obtain ⟨hl1, hl2, hl3⟩ := scn_len d.sk d.ps d.n i
                    have HX : Aside ((scn d.sk d.ps d.n i).last ≤ x1 ∧ scn d.sk d.ps d.n (i + 1) = Sc.step d.sk (scn d.sk d.ps d.n i) (x1, x2)) := ⟨hx4, hx5⟩
                    clear hx hx3 hx4 hx5 hd S5
                    obtain ⟨⟨pr, ks, qs⟩, hsc⟩ : ∃ sc, scn d.sk d.ps d.n i = sc := ⟨_, rfl⟩
                    rw [hsc] at S6 HX hl1 hl2 hl3 hLm
                    clear hsc
                    obtain ⟨gk', ck, rfl, hgk, -⟩ := own_at S6.r4.k S6.r4.k0
                    obtain ⟨gq', cq, rfl, hgq, hqc⟩ := own_at S6.r4.q S6.r4.q0
                    dsimp only at S6 HX hl1 hl2 hl3 hLm hqc ⊢
                    obtain ⟨lq, hlq⟩ : ∃ lq, (⟨pr, ks, qs⟩ : Sc).last = lq := ⟨_, rfl⟩
                    have HL1 := last_eq ⟨pr, ks, qs⟩
                    rw [hlq] at HL1 HX
                    dsimp only at HL1
                    have HL0 : Aside _ := HL1
                    have HLQ : Aside _ := hlq
                    have HLM : Aside _ := hLm
                    obtain ⟨m5, hm5⟩ : ∃ m, L5.length = m := ⟨_, rfl⟩
                    have hlp : m5 ≤ 1100 := by omega
                    have HM5 : Aside (L5.length = m5 ∧ m5 ≤ 512 * j + i) := ⟨hm5, by omega⟩
                    clear HL1 hlq hLm hLl
                    have hqn : qs ≠ [] → ∃ t, t + 1 = qs.length ∧ (wr.alloc (.cells #[.int .u64 x1, .int .i64 x2] 87)).cell? ⟨gq', t, none⟩ = some (.int .u64 lq) := fun hq => by
                      have h1 := HL0.out.2 hq
                      have hl0 : 0 < qs.length := List.length_pos_iff.2 hq
                      refine ⟨qs.length - 1, by omega, ?_⟩
                      have h2 : (qs.map fun x : Nat => Value.int .u64 x)[qs.length - 1]? = some (.int .u64 lq) := by
                        rw [List.getElem?_map, h1]; rfl
                      exact (Fr.alloc (X := fun _ => False) wr _).cell (hqc _ _ h2) (by simp)
                    have HQN : Aside _ := hqn
                    have Y1 : Aside _ := S6.toY C4.out x1 x2
                    have SP := S6.places.1
                    have SP1 : (wr.alloc (.cells #[.int .u64 x1, .int .i64 x2] 87)).cell? ⟨d.t, 6, none⟩ = some (.slice (some ⟨gq', 0, none⟩) qs.length cq) := (Fr.alloc (X := fun _ => False) wr _).cell SP (by simp)
                    have htw : d.t < wr.heap.size := World.block_lt_of_cell? wr ⟨d.t, 6, none⟩ SP
                    have htn : ¬ d.t = wr.heap.size := by omega
                    clear hqn hqc S6
                    go_upto_if 94 with (fail)
                    generalize wr.alloc (.cells #[.int .u64 x1, .int .i64 x2] 87) = W1 at Y1 HQN SP1 ⊢
                    generalize wr.heap.size = b1 at Y1 ⊢
                    clear SP a0 a1 htw htn wr
                    go_cut [16] (fun s16 wc => s16 = .int .u64 lq ∧ Aside (Fr (fun _ => False) W1 wc))
                    case first =>
                      by_cases hq : qs = []
                      · subst hq
                        have hz := HL0.out.1 rfl
                        subst hz
                        go_wp2_with fail
                        go_meet
                        case rel => exact ⟨rfl, Fr.refl _ _⟩
                      · obtain ⟨t, ht, hlc⟩ := HQN.out hq
                        generalize qs.length = m at *
                        subst ht
                        have e5 : (t : Int) < ((t : Int) + 1) := by omega
                        have e6 : (0 : Int) < ((t : Int) + 1) := by omega
                        have e7 : (0 : Int) ≤ (t : Int) := by omega
                        go_wp2_with fail
                        go_quiet (fail)
                        go_wp2_with fail
                        go_meet
                        case rel => exact ⟨rfl, Fr.drewN W1 nq⟩
                    case rest =>
                      obtain ⟨rfl, FW⟩ := hcut
                      obtain ⟨W, hW⟩ : ∃ W, W = wc := ⟨_, rfl⟩
                      subst hW
                      have Y2 : Aside _ := Y1.out.fr0 FW.out
                      clear HL0 HQN SP1 Y1 FW W1
                      obtain ⟨hle, hst⟩ := HX.out
                      have HST : Aside _ := hst
                      clear HX hst
                      have c0 := Y2.out.c0
                      have c1 := Y2.out.c1
                      obtain ⟨i5, hi5, hz50, hz51, hz52⟩ := info_parts Ybaf.info51
                      go_upto_block 6 with (fail)
                      go_cut [5] (fun s5 wc => Aside (x1 ≠ lq ∧ ∃ L6, SY d Wb wc p G pv0 s5 (.slice (some ⟨gk', 0, none⟩) ks.length ck) (.slice (some ⟨gq', 0, none⟩) qs.length cq) L6 ks qs D0 b1 x1 x2 ∧ L6.map (·.1) = prs dd j ++ (if lq + 1 < x1 ∧ d.sk = false then pr ++ [(true, x2 + 1)] else pr) ∧ L6.length ≤ 512 * j + (i + 1)))
                      case first =>
                        by_cases hdup : x1 = lq
                        · have hst2 : Aside (scn d.sk d.ps d.n (i + 1) = ⟨pr ++ [(false, x2 + 1)], ks, qs⟩) := by
                            have h := HST.out
                            rw [step_dup _ _ _ (by rw [HLQ.out]; exact hdup)] at h
                            exact h
                          subst hdup
                          clear HST
                          have HF : Aside (∀ W' : World, W'.tape = Wb.tape → F.answers W'.tape) := fun W' h => by rw [h, I4.out.fr.tape]; exact F0.out
                          have YD : Aside _ := Y2.out.fr0 (Fr.drew (X := fun _ => False) W)
                          have hcL := locate18 d W.drew p lg fb fc x2 ⟨#[102]⟩ (YD.out.sx.log C4.out).files (YD.out.sx.log C4.out).fname (YD.out.sx.tl C4.out) (YD.out.sx.kept C4.out) (by have := YD.out.sz; have := C4.out.gvG; omega) hx2
                          go_upto_region 24 with (fail)
                          haveI inst : Inhabited (KeepS (S24 b1 x1 x2)) := ⟨⟨W, ⟨c0, c1⟩⟩⟩
                          have q0 : ∀ q : KeepS (S24 b1 x1 x2), q.W.cell? ⟨b1, 0, none⟩ = some (.int .u64 x1) := fun q => q.h.a
                          have q1 : ∀ q : KeepS (S24 b1 x1 x2), q.W.cell? ⟨b1, 1, none⟩ = some (.int .i64 x2) := fun q => q.h.e
                          refine wp_region_chain 14 [([0, 1, 2, 3, 4, 6, 7, 8, 9], 5), ([], 10), ([11], 12), ([], 13)] [] (C := fun w' => ∃ q : KeepS (S24 b1 x1 x2), w' = q.W) mixed rfl (by kernel_rfl) (by kernel_rfl) (by kernel_rfl) (by kernel_rfl) rfl (by intro _ _ d _ _ h; simp (config := { zetaDelta := true }) only [Exit.then, Exit.inBlock, bodyPost] at h ⊢; cases d <;> exact h) ?_
                          simp only [chainEnd, List.map_cons, List.map_nil, List.take_succ_cons, List.take_zero, List.filterMap_cons, List.filterMap_nil, List.getElem?_cons_succ, List.getElem?_cons_zero]
                          refine ⟨⟨⟨W.drew, ⟨c0, c1⟩⟩, rfl⟩, ?_⟩
                          repeat (quiet_step (fail))
                          refine wpQuiet_nil ?_
                          go_wp2_with (go_at_call 18; refine hcL.mono ?_; rintro e w6 ⟨rfl, F6⟩)
                          have Y6 : Aside _ := YD.out.fr0 F6
                          refine ⟨⟨⟨w6, ⟨Y6.out.c0, Y6.out.c1⟩⟩, rfl⟩, ?_⟩
                          refine wpQuiet_nil ?_
                          have hcS := string19 F (hostS j) x1 w6 (HF.out w6 Y6.out.sx.fr.tape)
                          go_wp2_with (go_at_call 19; refine hcS.mono ?_; rintro e w7 ⟨rfl, F7⟩)
                          have Y7 : Aside _ := Y6.out.fr0 F7
                          refine ⟨⟨⟨w7, ⟨Y7.out.c0, Y7.out.c1⟩⟩, rfl⟩, ?_⟩
                          repeat (quiet_step (fail))
                          refine wpQuiet_nil ?_
                          go_wp2_with fail
                          have FA := Fr.alloc (X := fun _ => False) w7 (.cells #[.string ⟨#[102]⟩, .int .i64 ((x2 : Int) + 1), .string ⟨#[100, 117, 112, 108, 105, 99, 97, 116, 101, 32, 101, 118, 101, 110, 116]⟩, .string (tx F (hostS j) x1)] 51)
                          have Y8 : Aside _ := Y7.out.fr0 FA
                          refine ⟨⟨⟨_, ⟨Y8.out.c0, Y8.out.c1⟩⟩, rfl⟩, ?_⟩
                          refine wpQuiet_nil ?_
                          refine wpList_append_own_at _ rfl (.tmp 112) (.tmp 124) 36 rfl (p + 1) 51 i5 _ 4 56 Ybaf.underlying36 hi5 hz50 hz51 hz52 rfl (by decide) _ _ _ rfl Y8.out.sx.r4.p ⟨w7.heap.size, 0, none⟩ 1 1 [.string ⟨#[102]⟩, .int .i64 ((x2 : Int) + 1), .string ⟨#[100, 117, 112, 108, 105, 99, 97, 116, 101, 32, 101, 118, 101, 110, 116]⟩, .string (tx F (hostS j) x1)] rfl rfl (news4 w7 _ _ _ _ 51) (by intro u hu; simp at hu; rcases hu with rfl | rfl | rfl | rfl <;> rfl) (by have := HM5.out; unfold maxLen; omega) (by have := HM5.out; omega) (Nat.le_trans (show p + 1 ≤ G by have := C4.out.gvG; omega) Y8.out.sz) ?_
                          intro v9 w9 O9 G9 N9 A9
                          have Y9 : Aside _ := Y8.out.addP C4.out (y := ((false, x2 + 1), tx F (hostS j) x1)) O9 G9 A9
                          clear O9 G9 N9 A9
                          go_wp2_with fail
                          refine ⟨⟨⟨w9, ⟨Y9.out.c0, Y9.out.c1⟩⟩, rfl⟩, ?_⟩
                          refine wpQuiet_nil ?_
                          clear q0 q1 inst
                          go_wp2_with fail
                          go_roundg (d.n - (i + 1))
                          case measure => omega
                          case rel =>
                            refine ⟨i + 1, by go_num, by omega, Nat.le_refl _, ?_⟩
                            exact ⟨_, _, by rw [hst2.out]; exact Y9.out.sx, by rw [List.map_append, HLM.out, hst2.out]; simp, by have := HM5.out; simp; omega⟩
                        · as_aux_lemma =>
                          obtain ⟨lq1, hlq1⟩ : ∃ m, lq + 1 = m := ⟨_, rfl⟩
                          have r1 : IntKind.u64.wrap ((lq : Int) + 1) = (lq1 : Int) := by rw [IntKind.wrap_u64]; omega
                          have hnz : ¬ ((x1 : Int) = (lq : Int)) := by omega
                          have HF : Aside (∀ W' : World, W'.tape = Wb.tape → F.answers W'.tape) := fun W' h => by rw [h, I4.out.fr.tape]; exact F0.out
                          have HQ1 : Hid (lq + 1 = lq1) := hlq1
                          have c4 := (Y2.out.sx.tl C4.out).skips
                          have HDU : Aside (x1 ≠ lq) := hdup
                          clear hlq1 hdup
                          by_cases h1d : lq1 < x1
                          · have hz1 : (lq1 : Int) < (x1 : Int) := by omega
                            have hz2 : decide (lq1 < x1) = true := by simpa using h1d
                            cases hsk : d.sk with
                            | true =>
                              rw [hsk] at c4
                              have HSK : Aside _ := hsk
                              clear hsk
                              go_wp2_with fail
                              go_meet
                              case rel => exact ⟨HDU.out, L5, Y2.out, by rw [if_neg (by rw [HSK.out]; simp)]; exact HLM.out, by have := HM5.out; omega⟩
                            | false =>
                              rw [hsk] at c4
                              have HM : Aside (lq + 1 < x1 ∧ d.sk = false) := ⟨by have := HQ1.out; omega, hsk⟩
                              clear hsk
                              obtain ⟨lq2, hlq2⟩ : ∃ m, lq + 2 = m := ⟨_, rfl⟩
                              have r2 : IntKind.u64.wrap ((lq : Int) + 2) = (lq2 : Int) := by rw [IntKind.wrap_u64]; have := HQ1.out; omega
                              obtain ⟨x3, hx3⟩ : ∃ m, x1 - 1 = m := ⟨_, rfl⟩
                              have r3 : IntKind.u64.wrap ((x1 : Int) - 1) = (x3 : Int) := by rw [IntKind.wrap_u64]; omega
                              have HX3 : Hid (x3 < 18446744073709551616) := by show x3 < 18446744073709551616; omega
                              have hcS := string19 F (hostS j) lq1 W (HF.out W Y2.out.sx.fr.tape)
                              clear hlq2 hx3
                              go_upto_if 148 with (go_at_call 19; refine hcS.mono ?_; rintro e w6 ⟨rfl, F6⟩; have k0 := F6.cell c0 (by simp); have k1 := F6.cell c1 (by simp))
                              have Y6 : Aside _ := Y2.out.fr0 F6
                              clear c0 c1 hcS F6 c4
                              have hs1 : (tx F (hostS j) lq1).size ≤ 1000 := HT.out j lq1 hlt (by omega)
                              unfold tx at hs1
                              generalize FmtStop.textOf (F "fmt.Sprintf" (sReading (hostS j).data.toList lq1) 0) = s1 at hs1 ⊢
                              go_cut [17] (fun s17 wc => ∃ nm : ByteArray, s17 = .string nm ∧ Aside (Fr (fun _ => False) w6 wc))
                              case first =>
                                by_cases h2d : lq2 < x1
                                · have hz3 : (lq2 : Int) < (x1 : Int) := by omega
                                  have hcS := string19 F (hostS j) x3 w6 (HF.out w6 Y6.out.sx.fr.tape)
                                  have hs2 : (tx F (hostS j) x3).size ≤ 1000 := HT.out j x3 hlt HX3.out
                                  unfold tx at hs2
                                  generalize FmtStop.textOf (F "fmt.Sprintf" (sReading (hostS j).data.toList x3) 0) = s2 at hs2 hcS
                                  go_wp2_with (go_at_call 19; refine hcS.mono ?_; rintro e w7 ⟨rfl, F7⟩)
                                  go_meet
                                  case rel => exact ⟨_, rfl, F7⟩
                                · have hz3 : ¬ (lq2 : Int) < (x1 : Int) := by omega
                                  go_wp2_with fail
                                  go_meet
                                  case rel => exact ⟨_, rfl, Fr.refl _ _⟩
                              case rest =>
                                obtain ⟨nm, rfl, F7⟩ := hcut
                                obtain ⟨V, hV⟩ : ∃ W, W = wc := ⟨_, rfl⟩
                                subst hV
                                have Y7 : Aside _ := Y6.out.fr0 F7.out
                                clear k0 k1 Y6 F7 Y2 w6
                                have c1 := Y7.out.c1
                                have hcL := locate18 d V p lg fb fc x2 ⟨#[102]⟩ (Y7.out.sx.log C4.out).files (Y7.out.sx.log C4.out).fname (Y7.out.sx.tl C4.out) (Y7.out.sx.kept C4.out) (by have := Y7.out.sz; have := C4.out.gvG; omega) hx2
                                go_wp2_with (first | (go_at_call 18; refine hcL.mono ?_; rintro e w8 ⟨rfl, F8⟩; have Y8 : Aside _ := (Y7.out.fr0 F8).fr0 (Fr.alloc (X := fun _ => False) w8 (.cells #[.string ⟨#[102]⟩, .int .i64 ((x2 : Int) + 1), .string ⟨#[109, 105, 115, 115, 105, 110, 103, 32, 101, 118, 101, 110, 116]⟩, .string nm] 51))) | (at_builtin; refine wpList_append_own_at _ rfl (.tmp 158) (.tmp 166) 36 rfl (p + 1) 51 i5 _ 4 56 Ybaf.underlying36 hi5 hz50 hz51 hz52 rfl (by decide) _ _ _ rfl Y8.out.sx.r4.p ⟨w8.heap.size, 0, none⟩ 1 1 [.string ⟨#[102]⟩, .int .i64 ((x2 : Int) + 1), .string ⟨#[109, 105, 115, 115, 105, 110, 103, 32, 101, 118, 101, 110, 116]⟩, .string nm] rfl rfl (news4 w8 _ _ _ _ 51) (by intro u hu; simp at hu; rcases hu with rfl | rfl | rfl | rfl <;> rfl) (by have := HM5.out; unfold maxLen; omega) (by have := HM5.out; omega) (Nat.le_trans (show p + 1 ≤ G by have := C4.out.gvG; omega) Y8.out.sz) ?_; intro v9 w9 O9 G9 N9 A9; have Y9 : Aside _ := Y8.out.addP C4.out (y := ((true, x2 + 1), nm)) O9 G9 A9; clear O9 G9 N9 A9))
                                go_meet
                                case rel => exact ⟨HDU.out, _, Y9.out, by rw [if_pos HM.out, List.map_append, HLM.out]; simp, by have := HM5.out; simp; omega⟩
                          · have hz1 : ¬ (lq1 : Int) < (x1 : Int) := by omega
                            have hz2 : decide (lq1 < x1) = false := by simpa using h1d
                            have HN : Aside (¬ lq + 1 < x1) := by show ¬ lq + 1 < x1; have := HQ1.out; omega
                            go_wp2_with fail
                            go_meet
                            case rel => exact ⟨HDU.out, L5, Y2.out, by rw [if_neg (fun h => HN.out h.1)]; exact HLM.out, by have := HM5.out; omega⟩
                      case rest => as_aux_lemma =>
                        obtain ⟨V, hV⟩ : ∃ W, W = wc := ⟨_, rfl⟩
                        subst hV
                        obtain ⟨hne, L6, Y3, hL6, hl6⟩ := hcut.out
                        have Y4 : Aside _ := Y3
                        have hst2 : scn d.sk d.ps d.n (i + 1) = ⟨if lq + 1 < x1 ∧ d.sk = false then pr ++ [(true, x2 + 1)] else pr, ks ++ [x2], qs ++ [x1]⟩ := by
                          have h := HST.out
                          by_cases hm : lq + 1 < x1 ∧ d.sk = false
                          · rw [step_miss _ _ _ (by rw [HLQ.out]; exact hne) (by rw [HLQ.out]; exact hm.1) hm.2] at h
                            rw [if_pos hm]; exact h
                          · rw [step_plain _ _ _ (by rw [HLQ.out]; exact hne) (by rw [HLQ.out]; exact hm)] at h
                            rw [if_neg hm]; exact h
                        generalize (if lq + 1 < x1 ∧ d.sk = false then pr ++ [(true, x2 + 1)] else pr) = pr2 at hL6 hst2
                        have HL6 : Aside (L6.map (·.1) = prs dd j ++ pr2 ∧ L6.length ≤ 512 * j + (i + 1)) := ⟨hL6, hl6⟩
                        have HS2 : Aside _ := hst2
                        clear hne Y3 hL6 hl6 hst2 hcut Y2 c0 c1 HLM HST HLQ hle W
                        have c1 := Y4.out.c1
                        have Y5 : Aside _ := Y4.out.fr0 (Fr.alloc (X := fun _ => False) V (.cells #[.int .i64 x2] 3))
                        go_upto_region 31 with (at_builtin; refine wpList_append_own_at _ rfl (.tmp 168) (.tmp 171) 45 rfl G 3 i3 _ 1 8 Ybaf.underlying45 hi3 hz30 hz31 hz32 rfl (by decide) _ _ _ rfl Y5.out.sx.r4.k ⟨V.heap.size, 0, none⟩ 1 1 [.int .i64 x2] rfl rfl (news1 V _ 3) (by intro u hu; simp at hu; subst hu; rfl) (by unfold maxLen; omega) (by omega) Y5.out.sz ?_; intro v6 w6 O6 G6 N6 A6; have Y6 : Aside _ := Y5.out.addK C4.out O6 G6 N6 A6; clear O6 G6 N6 A6)
                        clear c1 Y4 Y5
                        have k6 := Y6.out.sx.places.1
                        have k0 := Y6.out.c0
                        haveI inst : Inhabited (KeepS (S31 d.t b1 gq' qs.length cq x1)) := ⟨⟨w6, ⟨k6, k0⟩⟩⟩
                        have q6 : ∀ q : KeepS (S31 d.t b1 gq' qs.length cq x1), q.W.cell? ⟨d.t, 6, none⟩ = some (.slice (some ⟨gq', 0, none⟩) qs.length cq) := fun q => q.h.a
                        have q0 : ∀ q : KeepS (S31 d.t b1 gq' qs.length cq x1), q.W.cell? ⟨b1, 0, none⟩ = some (.int .u64 x1) := fun q => q.h.e
                        refine wp_region_chain 11 [([0, 1, 2, 3, 4, 5, 6], 7), ([], 8)] [9, 10] (C := fun w' => ∃ q : KeepS (S31 d.t b1 gq' qs.length cq x1), w' = q.W) mixed rfl (by kernel_rfl) (by kernel_rfl) (by kernel_rfl) (by kernel_rfl) rfl (by intro _ _ d _ _ h; simp (config := { zetaDelta := true }) only [Exit.then, Exit.inBlock, bodyPost] at h ⊢; cases d <;> exact h) ?_
                        simp only [chainEnd, List.map_cons, List.map_nil, List.take_succ_cons, List.take_zero, List.filterMap_cons, List.filterMap_nil, List.getElem?_cons_succ, List.getElem?_cons_zero]
                        refine ⟨⟨⟨w6.drew, ⟨k6, k0⟩⟩, rfl⟩, ?_⟩
                        repeat (quiet_step (fail))
                        refine wpQuiet_nil ?_
                        go_wp2_with fail
                        have Y7 : Aside _ := (Y6.out.fr0 (Fr.drew (X := fun _ => False) w6)).fr0 (Fr.alloc (X := fun _ => False) w6.drew (.cells #[.int .u64 x1] 60))
                        refine ⟨⟨⟨_, ⟨Y7.out.sx.places.1, Y7.out.c0⟩⟩, rfl⟩, ?_⟩
                        refine wpQuiet_nil ?_
                        refine wpList_append_own_at _ rfl (.tmp 177) (.tmp 180) 22 rfl G 60 i6 _ 1 8 Ybaf.underlying22 hi6 hz60 hz61 hz62 rfl (by decide) _ _ _ rfl Y7.out.sx.r4.q ⟨w6.drew.heap.size, 0, none⟩ 1 1 [.int .u64 x1] rfl rfl (news1 w6.drew _ 60) (by intro u hu; simp at hu; subst hu; rfl) (by unfold maxLen; omega) (by omega) Y7.out.sz ?_
                        intro v8 w8 O8 G8 N8 A8
                        obtain ⟨g8, c8, rfl, -, -⟩ := own_at O8 (fun h => by have := (N8.1 h).2; omega)
                        have S8 : Aside _ := Y7.out.addQ C4.out O8 G8 N8
                        have F8 : Fr (fun k => (Value.slice (some ⟨gq', 0, none⟩) qs.length cq).ownBlock = some k) _ w8 := Fr.grown G8 (fun _ h => h)
                        have hdt : ¬ (Value.slice (some ⟨gq', 0, none⟩) qs.length cq).ownBlock = some d.t := fun h => by
                          have h1 := (Y7.out.sx.r4.q.lt _ h).1
                          have h2 := C4.out.gvG
                          have h3 := C4.out.tl.ltT.1
                          omega
                        have d6 := F8.cell Y7.out.sx.places.1 hdt
                        have f6 := F8.frozen Y7.out.sx.places.1 hdt Y7.out.sx.places.2
                        have KB : Aside (S31 d.t b1 gq' qs.length cq x1 w8) := ⟨d6, F8.cell Y7.out.c0 Y7.out.nq⟩
                        clear F8 hdt O8 G8 N8 A8
                        go_wp2_with fail
                        refine ⟨⟨⟨w8, KB.out⟩, rfl⟩, ?_⟩
                        repeat (quiet_step (fail))
                        refine wpQuiet_nil ?_
                        clear q6 q0 k6 k0 inst
                        go_wp2_with fail
                        go_roundg (d.n - (i + 1))
                        case measure => omega
                        case rel =>
                          refine ⟨i + 1, by go_num, by omega, Nat.le_refl _, ?_⟩
                          exact ⟨_, L6, by rw [HS2.out]; exact S8.out, by rw [HS2.out]; exact HL6.out.1, HL6.out.2⟩
                  · have e3 : ¬ (i : Int) < (d.n : Int) := by omega
                    obtain rfl : i = d.n := by omega
                    go_wp2_with fail
                    go_meet
                    case rel => exact S5
              case rest => as_aux_lemma =>
                clear S4
                obtain ⟨V, hV⟩ : ∃ W, W = wc := ⟨_, rfl⟩
                subst hV
                obtain ⟨qv, L5, S6, hLm, hLl⟩ := hcut.out
                obtain ⟨gk', ck, rfl, hgk, hkc⟩ := own_at S6.r4.k S6.r4.k0
                have t3 := (S6.tl C4.out).n_
                have k5 := S6.kept C4.out
                have f5 : V.frozen? ⟨d.t, 5, none⟩ = false := S6.rc.free 5 (by omega)
                have HI : Aside (∀ V' : World, Fr (fun _ => False) V V' → ((scn d.sk d.ps d.n d.n).ks ≠ List.range d.n → IxR w (V'.setCell ⟨d.t, 5, none⟩ (.slice (some ⟨gk', 0, none⟩) (scn d.sk d.ps d.n d.n).ks.length ck)) p (j + 1) dd u5) ∧ ((scn d.sk d.ps d.n d.n).ks = List.range d.n → IxR w V' p (j + 1) dd u5)) := fun V' f => by
                  have hA : ∀ k, k < 2 → k ≠ j → Away (dd k) d.t := fun k hk hne => by
                    rw [← HD.out]
                    rcases (by omega : (k = 0 ∧ j = 1) ∨ (k = 1 ∧ j = 0)) with ⟨rfl, rfl⟩ | ⟨rfl, rfl⟩
                    · exact AW.out.1
                    · exact AW.out.2
                  have S8 := S6.fr0 f
                  constructor
                  · intro hne
                    have fs : Fr (fun k => k = d.t) V' (V'.setCell ⟨d.t, 5, none⟩ (.slice (some ⟨gk', 0, none⟩) (scn d.sk d.ps d.n d.n).ks.length ck)) := Fr.setCell _ _ _ rfl
                    exact I4.out.next hlt HD.out hr HWG.out C4.out HPV.out hA S8 hLm hLl fs (by rw [if_neg hne]; exact World.cell?_setCell_same _ _ _ (S8.kept C4.out)) ((cell_ne (Or.inr (by omega))).trans S8.places.1)
                  · intro he
                    exact I4.out.next hlt HD.out hr HWG.out C4.out HPV.out hA S8 hLm hLl (Fr.refl _ _) (by rw [if_pos he]; exact S8.kept C4.out) S8.places.1
                have HKC : Aside (∀ j, j < (scn d.sk d.ps d.n d.n).ks.length → V.cell? ⟨gk', j, none⟩ = some (.int .i64 ((scn d.sk d.ps d.n d.n).ks.getD j 0))) := fun j hj => hkc j _ (getD_map_int _ _ _ hj)
                obtain ⟨hl1, hl2, hl3⟩ := scn_len d.sk d.ps d.n d.n
                clear S6 hLm hLl hcut hkc hl1 hl3
                obtain ⟨ks, hks⟩ : ∃ ks, (scn d.sk d.ps d.n d.n).ks = ks := ⟨_, rfl⟩
                have HKI : Aside _ := kept_iff d.sk d.ps d.n ks hks
                rw [hks] at HI HKC hl2 ⊢
                clear hks
                by_cases hk : ks.length < d.n
                · have hkz : (ks.length : Int) < (d.n : Int) := by omega
                  have hkd : decide (ks.length < d.n) = true := by simpa using hk
                  have hne : Aside (ks ≠ List.range d.n) := fun e => by rw [e, List.length_range] at hk; omega
                  go_wp2_with fail
                  go_roundg (2 - (j + 1))
                  case measure => omega
                  case rel => exact ⟨j + 1, by go_num, by omega, Nat.le_refl _, (HI.out V (Fr.refl _ _)).1 hne.out⟩
                · have hkz : ¬ (ks.length : Int) < (d.n : Int) := by omega
                  have hkd : decide (ks.length < d.n) = false := by simpa using hk
                  have hcon := sorted20 gk' ck ks V HKC.out (by omega)
                  have HK : Aside (¬ ks.length < d.n) := hk
                  clear hk
                  go_upto_if 196 with (go_at_call 20; refine hcon.mono ?_; rintro e w6 ⟨bb, rfl, hbb, q6, rfl⟩)
                  have HBB : Aside _ := hbb
                  clear hbb hcon
                  cases bb with
                  | true =>
                    have he : Aside (ks = List.range d.n) := HKI.out.1 ⟨HK.out, HBB.out.1 rfl⟩
                    go_wp2_with fail
                    go_roundg (2 - (j + 1))
                    case measure => omega
                    case rel => exact ⟨j + 1, by go_num, by omega, Nat.le_refl _, (HI.out _ (Fr.drewN V q6)).2 he.out⟩
                  | false =>
                    have hne : Aside (ks ≠ List.range d.n) := fun e => by
                      have := HBB.out.2 (HKI.out.2 e).2
                      cases this
                    go_wp2_with fail
                    go_roundg (2 - (j + 1))
                    case measure => omega
                    case rel => exact ⟨j + 1, by go_num, by omega, Nat.le_refl _, (HI.out _ (Fr.drewN V q6)).1 hne.out⟩
    · have e1 : ¬ (j : Int) < (2 : Int) := by omega
      obtain rfl : j = 2 := by omega
      go_wp2_with fail
      go_ret
      exact ⟨_, rfl, by rw [HP.out]; exact I1.out⟩
end Go.Proofs.YbulkbyweFmt
