import Derived.Test.YbulkbyweFmtNxW
namespace Go.Proofs.YbulkbyweFmt
open Go.Shelf Go.RowKit Go.Lib Go.Proofs

theorem setCell_self (w : World) (b o : Nat) (v : Value) (h : w.cell? ⟨b, o, none⟩ = some v) : w.setCell ⟨b, o, none⟩ v = w := by
  have hb := World.block_lt_of_cell? w ⟨b, o, none⟩ h
  have e : (w.setCell ⟨b, o, none⟩ v).heap = w.heap := by
    apply Array.ext_getElem?
    intro k
    simp only [World.setCell, Array.getElem?_modify]
    split
    · rename_i hk
      subst hk
      unfold World.cell? at h
      cases hx : w.heap[b]? with
      | none => rw [hx] at h; simp at h
      | some ob =>
        cases ob with
        | cells c el fz =>
          simp only [hx] at h
          simp only [Option.map_some]
          have h1 : c[o]? = some v := by simpa using h
          have h2 : c.setIfInBounds o v = c := by
            apply Array.ext_getElem?
            intro j
            rw [Array.getElem?_setIfInBounds]
            split
            · rename_i e; subst e
              rw [h1]
              split
              · rfl
              · rename_i hlt; rw [Array.getElem?_eq_none (by omega)] at h1; cases h1
            · rfl
          simp [h2]
        | _ => rfl
    · rfl
  show { w with heap := (w.setCell ⟨b, o, none⟩ v).heap } = w
  rw [e]

/-- How far a world is from w: so many draws, this value in one cell. -/
structure PosBy where
  n : Nat
  v : Value

instance : Inhabited PosBy := ⟨⟨0, undef⟩⟩

theorem pos_drew {w : World} {c o : Nat} {v : Value} (h : w.cell? ⟨c, o, none⟩ = some v) : ∃ p : PosBy, w.drew = (w.drewN p.n).setCell ⟨c, o, none⟩ p.v :=
  ⟨⟨1, v⟩, (setCell_self (w.drewN 1) c o v h).symm⟩

set_option maxHeartbeats 1000000 in
set_option maxRecDepth 100000 in
theorem next24_clocks (c ro b i h x bi bd bm n cd : Nat) (B : Nat → Value) (w : World) (R : Rec w c ro 14 B) (K : Blk w b i h x bi bd bm n cd) (hi : i < 4294967296)
    (h0 : B 0 = .pointer (some ⟨b, 0, none⟩)) (h1 : B 1 = .int .i64 (-1)) (h2 : B 2 = .int .i64 0) (h6 : B 6 = .slice none 0 0) (h8 : B 8 = .int .u8 2)
    (hcb : c ≠ b) (hcd : c ≠ bd) (hcbi : c ≠ bi) (hcm : c ≠ bm) :
    Calls Ybaf.prog 24 #[.pointer (some ⟨c, ro, none⟩)] w fun e w' => e = .returned (.tuple #[]) ∧ ∃ B', Rec w' c ro 14 B' ∧ B' 0 = .pointer (some ⟨b, 0, none⟩) ∧ B' 1 = .int .i64 0 ∧ B' 5 = .int .i64 ((i + 1 : Nat) : Int) ∧ Fr (fun k => k = c) w w' := by
  have mixed := Ybaf.laysUv.mixed
  have NB := K.bounds
  have c0 := R.at 0 (by omega) (a := ro) (by omega) h0
  have c1 := R.at 1 (by omega) (a := ro + 1) rfl h1
  have c2 := R.at 2 (by omega) (a := ro + 2) rfl h2
  have c8 := R.at 8 (by omega) (a := ro + 8) rfl h8
  have f1 := R.nf 1 (by omega) (a := ro + 1) rfl
  have d8 := K.data
  obtain ⟨y0, y1, y2, y3, y4⟩ := K.byt.head
  have n0 : (0 : Int) ≤ (n : Int) := by omega
  have hn3 : 3 ≤ n := by omega
  have hn32 : n < 4294967296 := by omega
  have ncd : (n : Int) ≤ (cd : Int) := by have := K.cap; omega
  have hb1 : bits BinOp.and IntKind.u8 2 1 = 0 := by kernel_rfl
  have R0 : Aside _ := R
  have K0 : Aside _ := K
  clear R K
  go_enter Ybaf.func24, Ybaf.ntmps24
  go_wp2_with fail
  go_quiet (fail)
  generalize nq = z1
  clear nq
  go_wp2_with fail
  go_quiet (fail)
  generalize nq = z2
  clear nq
  go_upto_region 13 with (go_at_call 32; refine (whereFits32 bd n cd _ hn3 (by go_simp) (by go_simp) (by go_simp)).mono ?_; rintro e w' ⟨rfl, q2, rfl⟩)
  have R1 : Aside (Rec (((w.drewN z1).setCell ⟨c, ro + 1, none⟩ (.int .i64 0)).drewN (z2 + q2)) c ro 14 (updB B 1 (.int .i64 0))) :=
    ((R0.out.drewN z1).set' 1 (by omega) _ rfl _).drewN _
  have F1 : Aside (Fr (fun k => k = c) w (((w.drewN z1).setCell ⟨c, ro + 1, none⟩ (.int .i64 0)).drewN (z2 + q2))) :=
    (((Fr.refl (fun k => k = c) w).drewN' z1).set' ⟨c, ro + 1, none⟩ _ rfl).drewN' _
  generalize ((w.drewN z1).setCell ⟨c, ro + 1, none⟩ (.int .i64 0)).drewN (z2 + q2) = w1 at R1 F1 ⊢
  clear c0 c1 c2 c8 f1 d8 y0 y1 y2 y3 y4 hb1 R0 z1 z2 q2
  have K1 : Aside _ := K0.out.fr F1.out (Ne.symm hcb) (Ne.symm hcbi) (Ne.symm hcd) (Ne.symm hcm)
  have c0 := R1.out.at 0 (by omega) (a := ro) (by omega) (v := .pointer (some ⟨b, 0, none⟩)) h0
  have c2 := R1.out.at 2 (by omega) (a := ro + 2) rfl (v := .int .i64 ((0 : Nat) : Int)) h2
  have f2 := R1.out.nf 2 (by omega) (a := ro + 2) rfl
  have c3 := R1.out.cell 3 (by omega)
  have f3 := R1.out.nf 3 (by omega) (a := ro + 3) rfl
  have d8 := K1.out.data
  have d1 := K1.out.at_
  obtain ⟨y0, y1, y2, y3, y4⟩ := K1.out.byt.head
  have hn0 : 0 < n := by omega
  have g1 : ∀ m v, ((w1.drewN m).setCell ⟨c, ro + 2, none⟩ v).cell? ⟨b, 1, none⟩ = some (.int .i64 0) := fun m v => (cell_ne (Or.inl hcb)).trans d1
  refine wp_region_one_lit 11 6 [0, 1, 2, 3, 4, 5] [7, 8, 9, 10] (C := fun w' => ∃ p : PosBy, w' = (w1.drewN p.n).setCell ⟨c, ro + 2, none⟩ p.v) mixed rfl rfl (by kernel_rfl) (by kernel_rfl) (by kernel_rfl) (by kernel_rfl) (by kernel_rfl) (by kernel_rfl) (by kernel_rfl) (by kernel_rfl) (by kernel_rfl) (by kernel_rfl) rfl (by intro _ _ d _ _ h; simp (config := { zetaDelta := true }) only [Exit.then, Exit.inBlock, bodyPost] at h ⊢; cases d <;> exact h) (pos_drew c2) ?_
  simp only [List.take_succ_cons, List.take_zero, List.filterMap_cons, List.filterMap_nil, List.getElem?_cons_succ, List.getElem?_cons_zero]
  repeat (quiet_step (fail))
  refine wpQuiet_nil ?_
  go_wp2_with (go_at_call 34; refine (uvarint34 c ro b bd n cd 0 0 _ (by omega) hn0 hn32 (by go_simp) (by go_simp) (by go_simp) (by go_simp) (by go_simp)).mono ?_; rintro e w' ⟨rfl, q2, rfl⟩)
  refine ⟨⟨⟨1 + q2, .int .i64 1⟩, rfl⟩, ?_⟩
  repeat (quiet_step (fail))
  refine wpQuiet_nil ?_
  have c4 := R1.out.at 4 (by omega) (a := ro + 3 + 1) (by omega) rfl
  have f4 := R1.out.nf 4 (by omega) (a := ro + 3 + 1) (by omega)
  have hn1 : 1 < n := by omega
  clear g1
  go_upto_region 15 with (go_at_call 34; refine (uvarint34 c ro b bd n cd 1 0 _ (by omega) hn1 hn32 (by go_simp) (by go_simp) (by go_simp) (by go_simp) (by go_simp)).mono ?_; rintro e w' ⟨rfl, q3, rfl⟩)
  have R2 : Aside (Rec ((((((w1.drewN (1 + q2)).setCell ⟨c, ro + 2, none⟩ (.int .i64 1)).setCell ⟨c, ro + 3, none⟩ (.int .i64 0)).drewN q3).setCell ⟨c, ro + 2, none⟩ (.int .i64 2)).setCell ⟨c, ro + 3 + 1, none⟩ (.int .i64 0)) c ro 14 (updB (updB (updB (updB (updB B 1 (.int .i64 0)) 2 (.int .i64 1)) 3 (.int .i64 0)) 2 (.int .i64 2)) 4 (.int .i64 0))) :=
    (((((R1.out.drewN _).set' 2 (by omega) _ rfl _).set' 3 (by omega) _ rfl _).drewN _).set' 2 (by omega) _ rfl _).set' 4 (by omega) _ (by omega) _
  have F2 : Aside (Fr (fun k => k = c) w ((((((w1.drewN (1 + q2)).setCell ⟨c, ro + 2, none⟩ (.int .i64 1)).setCell ⟨c, ro + 3, none⟩ (.int .i64 0)).drewN q3).setCell ⟨c, ro + 2, none⟩ (.int .i64 2)).setCell ⟨c, ro + 3 + 1, none⟩ (.int .i64 0))) :=
    ((((((F1.out.drewN' _).set' ⟨c, ro + 2, none⟩ _ rfl).set' ⟨c, ro + 3, none⟩ _ rfl).drewN' _).set' ⟨c, ro + 2, none⟩ _ rfl).set' ⟨c, ro + 3 + 1, none⟩ _ rfl)
  generalize (((((w1.drewN (1 + q2)).setCell ⟨c, ro + 2, none⟩ (.int .i64 1)).setCell ⟨c, ro + 3, none⟩ (.int .i64 0)).drewN q3).setCell ⟨c, ro + 2, none⟩ (.int .i64 2)).setCell ⟨c, ro + 3 + 1, none⟩ (.int .i64 0) = w2 at R2 F2 ⊢
  clear c0 c2 f2 c3 f3 c4 f4 d8 d1 y0 y1 y2 y3 y4 R1 F1 K1 q2 q3 hn0 hn1
  have K1 : Aside _ := K0.out.fr F2.out (Ne.symm hcb) (Ne.symm hcbi) (Ne.symm hcd) (Ne.symm hcm)
  obtain ⟨m, hm⟩ : ∃ m, i + 1 = m := ⟨_, rfl⟩
  have c0 := R2.out.at 0 (by omega) (a := ro) (by omega) (v := .pointer (some ⟨b, 0, none⟩)) h0
  have c2 := R2.out.at 2 (by omega) (a := ro + 2) rfl (v := .int .i64 ((2 : Nat) : Int)) rfl
  have f2 := R2.out.nf 2 (by omega) (a := ro + 2) rfl
  have c5 := R2.out.at 5 (by omega) (a := ro + 3 + 2) (by omega) rfl
  have f5 := R2.out.nf 5 (by omega) (a := ro + 3 + 2) (by omega)
  have d8 := K1.out.data
  have d2 := K1.out.line
  rw [hm] at d2
  have rm : IntKind.i64.wrap ((m : Int) + 0) = (m : Int) := by rw [IntKind.wrap_i64]; omega
  have rm2 : wrap64 ((m : Int) + 0) = (m : Int) := by unfold wrap64; omega
  have HM : Hid (i + 1 = m) := hm
  clear hm
  obtain ⟨y0, y1, y2, y3, y4⟩ := K1.out.byt.head
  have hn2 : 2 < n := by omega
  have g1 : ∀ q v, ((w2.drewN q).setCell ⟨c, ro + 2, none⟩ v).cell? ⟨b, 2, none⟩ = some (.int .i64 m) := fun q v => (cell_ne (Or.inl hcb)).trans d2
  refine wp_region_one_lit 11 6 [0, 1, 2, 3, 4, 5] [7, 8, 9, 10] (C := fun w' => ∃ p : PosBy, w' = (w2.drewN p.n).setCell ⟨c, ro + 2, none⟩ p.v) mixed rfl rfl (by kernel_rfl) (by kernel_rfl) (by kernel_rfl) (by kernel_rfl) (by kernel_rfl) (by kernel_rfl) (by kernel_rfl) (by kernel_rfl) (by kernel_rfl) (by kernel_rfl) rfl (by intro _ _ d _ _ h; simp (config := { zetaDelta := true }) only [Exit.then, Exit.inBlock, bodyPost] at h ⊢; cases d <;> exact h) (pos_drew c2) ?_
  simp only [List.take_succ_cons, List.take_zero, List.filterMap_cons, List.filterMap_nil, List.getElem?_cons_succ, List.getElem?_cons_zero]
  repeat (quiet_step (fail))
  refine wpQuiet_nil ?_
  go_wp2_with (go_at_call 34; refine (uvarint34 c ro b bd n cd 2 0 _ (by omega) hn2 hn32 (by go_simp) (by go_simp) (by go_simp) (by go_simp) (by go_simp)).mono ?_; rintro e w' ⟨rfl, q2, rfl⟩)
  refine ⟨⟨⟨1 + q2, .int .i64 3⟩, rfl⟩, ?_⟩
  repeat (quiet_step (fail))
  refine wpQuiet_nil ?_
  clear g1
  go_upto_region 26 with (fail)
  rw [rm2]
  have R3 : Aside (Rec (((w2.drewN (1 + q2)).setCell ⟨c, ro + 2, none⟩ (.int .i64 3)).setCell ⟨c, ro + 3 + 2, none⟩ (.int .i64 m)) c ro 14 (updB (updB (updB (updB (updB (updB (updB B 1 (.int .i64 0)) 2 (.int .i64 1)) 3 (.int .i64 0)) 2 (.int .i64 2)) 4 (.int .i64 0)) 2 (.int .i64 3)) 5 (.int .i64 m))) :=
    ((R2.out.drewN _).set' 2 (by omega) _ rfl _).set' 5 (by omega) _ (by omega) _
  have F3 : Aside (Fr (fun k => k = c) w (((w2.drewN (1 + q2)).setCell ⟨c, ro + 2, none⟩ (.int .i64 3)).setCell ⟨c, ro + 3 + 2, none⟩ (.int .i64 m))) :=
    ((F2.out.drewN' _).set' ⟨c, ro + 2, none⟩ _ rfl).set' ⟨c, ro + 3 + 2, none⟩ _ rfl
  generalize ((w2.drewN (1 + q2)).setCell ⟨c, ro + 2, none⟩ (.int .i64 3)).setCell ⟨c, ro + 3 + 2, none⟩ (.int .i64 m) = w3 at R3 F3 ⊢
  clear c0 c2 f2 c5 f5 d8 d2 y0 y1 y2 y3 y4 R2 F2 K1 q2 rm rm2 hn2
  have K1 : Aside _ := K0.out.fr F3.out (Ne.symm hcb) (Ne.symm hcbi) (Ne.symm hcd) (Ne.symm hcm)
  have c0 := R3.out.at 0 (by omega) (a := ro) (by omega) (v := .pointer (some ⟨b, 0, none⟩)) h0
  have c2 := R3.out.at 2 (by omega) (a := ro + 2) rfl (v := .int .i64 ((3 : Nat) : Int)) rfl
  have f2 := R3.out.nf 2 (by omega) (a := ro + 2) rfl
  have c6 := R3.out.at 6 (by omega) (a := ro + 3 + 3) (by omega) (v := .slice none 0 0) h6
  have f6 := R3.out.nf 6 (by omega) (a := ro + 3 + 3) (by omega)
  have c8 := R3.out.at 8 (by omega) (a := ro + 8) rfl (v := .int .u8 2) h8
  have d8 := K1.out.data
  obtain ⟨y0, y1, y2, y3, y4⟩ := K1.out.byt.head
  have hn4 : 3 < n := by omega
  have hb2 : bits BinOp.and IntKind.u8 2 2 = 2 := by kernel_rfl
  go_upto_region 33 with (go_at_call 34; refine (uvarint34 c ro b bd n cd 3 1 _ (by omega) hn4 hn32 (by go_simp) (by go_simp) (by go_simp) (by go_simp) (by go_simp)).mono ?_; rintro e w' ⟨rfl, q2, rfl⟩)
  have R4 : Rec (((w3.setCell ⟨c, ro + 3 + 3, none⟩ (.slice none 0 0)).drewN q2).setCell ⟨c, ro + 2, none⟩ (.int .i64 4)) c ro 14 _ :=
    ((R3.out.set' 6 (by omega) (ro + 3 + 3) (by omega) (.slice none 0 0)).drewN q2).set' 2 (by omega) (ro + 2) rfl (.int .i64 4)
  have F4 : Aside (Fr (fun k => k = c) w (((w3.setCell ⟨c, ro + 3 + 3, none⟩ (.slice none 0 0)).drewN q2).setCell ⟨c, ro + 2, none⟩ (.int .i64 4))) :=
    ((F3.out.set' ⟨c, ro + 3 + 3, none⟩ _ rfl).drewN' q2).set' ⟨c, ro + 2, none⟩ _ rfl
  have hcon := pass33 c ro b i h x bi bd bm n cd _ _ R4 (K0.out.fr F4.out (Ne.symm hcb) (Ne.symm hcbi) (Ne.symm hcd) (Ne.symm hcm)) hcb hcbi hcd hcm h0 rfl
  clear R4
  go_wp2_with (go_at_call 33; refine hcon.mono ?_; rintro e w' ⟨rfl, R5, F5⟩)
  go_end0
  refine ⟨rfl, _, R5, h0, rfl, ?_, F4.out.trans F5 (fun _ h => h) (fun _ _ h => h)⟩
  show Value.int .i64 (m : Int) = _
  rw [← HM.out]
end Go.Proofs.YbulkbyweFmt
