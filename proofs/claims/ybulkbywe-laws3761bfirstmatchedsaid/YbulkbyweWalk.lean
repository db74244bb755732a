import Derived.Test.YbulkbyweRowsOf
namespace Go.Proofs.Ybulkbywe
open Go.RowKit

theorem ints_set (l : List Int) (j : Nat) (a : Int) : (l.map (Value.int .i64)).set j (.int .i64 a) = (l.set j a).map (Value.int .i64) := (List.map_set).symm

theorem own_cell {w : World} {B g n cap : Nat} {l : List Int} (h : w.ownsRow B 3 1 (.slice (some ⟨g, 0, none⟩) n cap) n (l.map (Value.int .i64))) (j : Nat) (hj : j < n) : w.cell? ⟨g, j, none⟩ = some (.int .i64 (l.getD j 0)) := by
  rw [h.cellAt j (by omega)]
  have : l.length = n := by simpa using h.1
  simp [List.getD, List.getElem?_eq_getElem (show j < l.length by omega)]

theorem rel1 {wr : World} {B n k : Nat} {st ln : List Int} {x y : Int} (h : wr.ownsRow B 3 1 (.slice (some ⟨B, 0, none⟩) (2 * n + 2) (2 * n + 2)) (2 * n + 2) ((mL n st ln k).map (Value.int .i64))) (hx : gS st k = x) (hy : gE st ln k = y) :
    ((wr.setCell ⟨B, 2 * k + 2, none⟩ (.int .i64 x)).setCell ⟨B, 2 * k + 3, none⟩ (.int .i64 y)).ownsRow B 3 1 (.slice (some ⟨B, 0, none⟩) (2 * n + 2) (2 * n + 2)) (2 * n + 2) ((mL n st ln (k + 1)).map (Value.int .i64)) := by
  subst hx; subst hy
  have h1 := (h.stored (2 * k + 2) (.int .i64 (gS st k))).1
  have h2 := (h1.stored (2 * k + 3) (.int .i64 (gE st ln k))).1
  rw [ints_set, ints_set] at h2
  exact h2

theorem bel1 {w wr : World} {k : Nat} {x y : Value} (h : Below w.heap.size w wr) :
    Below w.heap.size w ((wr.setCell ⟨w.heap.size, 2 * k + 2, none⟩ x).setCell ⟨w.heap.size, 2 * k + 3, none⟩ y) :=
  (h.setCell (Nat.le_refl _) _).setCell (Nat.le_refl _) _

theorem belN {B : Nat} {w w' : World} (h : Below B w w') (q : Nat) : Below B w (w'.drewN q) := ⟨h.os, h.tape, h.output, h.size, h.block⟩

set_option maxHeartbeats 4000000 in
set_option maxRecDepth 100000 in
theorem law (a0 a1 a2 : Option Addr) (c0 c1 c2 b0 o0 b1 o1 b2 o2 : Nat) (bs : List Bool) (st ln : List Int) (w : World) (hn : bs.length ≤ 1024)
    (hst : ∀ x ∈ st, -128 ≤ x ∧ x ≤ 127) (hln : ∀ x ∈ ln, 0 ≤ x ∧ x ≤ 255) (hsl : st.length ≤ maxLen) (hll : ln.length ≤ maxLen)
    (h0 : ∀ j, j < bs.length → b0 < w.heap.size ∧ w.cell? ⟨b0, o0 + j, none⟩ = some (.bool (bs.getD j false)) ∧ ∀ W, (Instr.indexAt 22 (.slice a0 bs.length c0) (.int .i64 (j : Int))).run Yba.prog W = .ok (.pointer (some ⟨b0, o0 + j, none⟩)) W)
    (h1 : ∀ j, j < st.length → b1 < w.heap.size ∧ w.cell? ⟨b1, o1 + j, none⟩ = some (.int .i8 (st.getD j 0)) ∧ ∀ W, (Instr.indexAt 23 (.slice a1 st.length c1) (.int .i64 (j : Int))).run Yba.prog W = .ok (.pointer (some ⟨b1, o1 + j, none⟩)) W)
    (h2 : ∀ j, j < ln.length → b2 < w.heap.size ∧ w.cell? ⟨b2, o2 + j, none⟩ = some (.int .u8 (ln.getD j 0)) ∧ ∀ W, (Instr.indexAt 24 (.slice a2 ln.length c2) (.int .i64 (j : Int))).run Yba.prog W = .ok (.pointer (some ⟨b2, o2 + j, none⟩)) W) :
    Calls Yba.prog 3 #[.slice a0 bs.length c0, .slice a1 st.length c1, .slice a2 ln.length c2] w fun e w' => e = .returned (.bool true) ∧ Below w.heap.size w w' := by
  obtain ⟨i0, hi, hz0, hz1, hz2⟩ := info_parts Yba.info3
  unfold maxLen at hsl
  have hll2 : ln.length ≤ 9223372036854775807 := hll
  obtain ⟨n, hnl⟩ : ∃ n, bs.length = n := ⟨_, rfl⟩
  rw [hnl] at hn h0 ⊢
  have HN : Hid (bs.length = n) := hnl
  clear hnl
  have C0 : Hid (∀ j, j < n → b0 < w.heap.size ∧ w.cell? ⟨b0, o0 + j, none⟩ = some (.bool (bs.getD j false)) ∧ ∀ W, (Instr.indexAt 22 (.slice a0 n c0) (.int .i64 (j : Int))).run Yba.prog W = .ok (.pointer (some ⟨b0, o0 + j, none⟩)) W) := h0
  have C1 : Hid (∀ j, j < st.length → b1 < w.heap.size ∧ w.cell? ⟨b1, o1 + j, none⟩ = some (.int .i8 (st.getD j 0)) ∧ ∀ W, (Instr.indexAt 23 (.slice a1 st.length c1) (.int .i64 (j : Int))).run Yba.prog W = .ok (.pointer (some ⟨b1, o1 + j, none⟩)) W) := h1
  have C2 : Hid (∀ j, j < ln.length → b2 < w.heap.size ∧ w.cell? ⟨b2, o2 + j, none⟩ = some (.int .u8 (ln.getD j 0)) ∧ ∀ W, (Instr.indexAt 24 (.slice a2 ln.length c2) (.int .i64 (j : Int))).run Yba.prog W = .ok (.pointer (some ⟨b2, o2 + j, none⟩)) W) := h2
  have ST : Hid (∀ x ∈ st, -128 ≤ x ∧ x ≤ 127) := hst
  have LN : Hid (∀ x ∈ ln, 0 ≤ x ∧ x ≤ 255) := hln
  clear h0 h1 h2 hst hln
  have hd : decide ((1024 : Int) < (n : Int)) = false := decide_eq_false (by omega)
  go_enter Yba.func3, Yba.ntmps3
  go_wp2_with (at_make; refine wpList_make_full _ rfl _ _ 25 rfl w.heap.size 3 i0 (.int .i64 0) 1 Yba.underlying25 hi hz0 hz1 _ _ _ _ (2 * n + 2) rfl rfl (by omega) (by omega) ?b2 ?b3 (Nat.le_refl _) ?_)
  case b2 => rw [hz2]; omega
  case b3 => unfold maxLen; omega
  intro w1 hown1 hgrow1
  have hown : w1.ownsRow w.heap.size 3 1 (.slice (some ⟨w.heap.size, 0, none⟩) (2 * n + 2) (2 * n + 2)) (2 * n + 2) ((List.replicate (2 * n + 2) (0 : Int)).map (Value.int .i64)) := by
    have e : (madeCells #[Value.int .i64 0] (2 * n + 2)).toList = (List.replicate (2 * n + 2) (0 : Int)).map (Value.int .i64) := by
      rw [toList_madeCells_one, List.map_replicate]
    rw [← e]; exact hown1
  have q0 := own_cell hown 0 (by omega)
  have q1 := own_cell hown 1 (by omega)
  have f0 := hown.frozenAt 0
  have f1 := hown.frozenAt 1
  have OW : Hid (w1.ownsRow w.heap.size 3 1 (.slice (some ⟨w.heap.size, 0, none⟩) (2 * n + 2) (2 * n + 2)) (2 * n + 2) ((List.replicate (2 * n + 2) (0 : Int)).map (Value.int .i64))) := hown
  have B1 : Below w.heap.size w w1 := (Below.refl _ _).grown hgrow1 (Nat.le_refl _) (fun k h => by cases h)
  clear hown1 hgrow1 hown
  go_wp2
  go_loopw [9, 10, 11] (fun j _ _ wr => ∃ k : Nat, k ≤ n ∧ j = .int .i64 ((k : Int) + 1) ∧ Hid (wr.ownsRow w.heap.size 3 1 (.slice (some ⟨w.heap.size, 0, none⟩) (2 * n + 2) (2 * n + 2)) (2 * n + 2) ((mL n st ln k).map (Value.int .i64))) ∧ Below w.heap.size w wr)
    (fun j _ _ _ => n + 1 - (intOf j).toNat)
  case atStart =>
    refine ⟨0, Nat.zero_le _, rfl, ?_, (B1.setCell (Nat.le_refl _) _).setCell (Nat.le_refl _) _⟩
    have h1 := (OW.out.stored 0 (.int .i64 0)).1
    have h2 := (h1.stored 1 (.int .i64 1000)).1
    rw [ints_set, ints_set] at h2
    exact h2
  case round =>
    clear q0 q1 f0 f1 OW B1
    obtain ⟨k, hk, rfl, OW, hbel⟩ := hrel
    by_cases hlt : k < n
    · have f0 := OW.out.frozenAt (2 * k + 2)
      have f1 := OW.out.frozenAt (2 * k + 3)
      have q0 := own_cell OW.out (2 * k + 2) (by omega)
      have q1 := own_cell OW.out (2 * k + 3) (by omega)
      generalize (mL n st ln k).getD (2 * k + 2) 0 = x0 at q0
      generalize (mL n st ln k).getD (2 * k + 3) 0 = x1 at q1
      have e1 : (2 * ((k : Int) + 1)).toNat = 2 * k + 2 := by omega
      have e2 : (2 * ((k : Int) + 1) + 1).toNat = 2 * k + 3 := by omega
      have l1 : (2 * ((k : Int) + 1)) < ((2 * n + 2 : Nat) : Int) := by omega
      have l2 : (2 * ((k : Int) + 1) + 1) < ((2 * n + 2 : Nat) : Int) := by omega
      by_cases hs : k < st.length
      · have g1 := (hbel.cell (p := ⟨b1, o1 + k, none⟩) (C1.out k hs).1).trans (C1.out k hs).2.1
        have ix1 := (C1.out k hs).2.2
        have bx := ST.out (st.getD k 0) (by rw [List.getD_eq_getElem?_getD, List.getElem?_eq_getElem hs]; exact List.getElem_mem hs)
        have SX : Hid (∀ x, st.getD k 0 = x → 0 ≤ x → gS st k = x) := by intro x h1 h2; unfold gS; rw [h1, if_pos ⟨hs, h2⟩]
        have SN : Hid (∀ x, st.getD k 0 = x → ¬ 0 ≤ x → gS st k = -1 ∧ gE st ln k = -1) := by intro x h1 h2; unfold gS gE; rw [h1, if_neg (fun h => h2 h.2), if_neg (fun h => h2 h.2)]; exact ⟨rfl, rfl⟩
        have SY : Hid (∀ x y, st.getD k 0 = x → ln.getD k 0 = y → 0 ≤ x → k < ln.length → gE st ln k = x + y) := by intro x y h1 h2 h3 h4; unfold gE; rw [h1, h2, if_pos ⟨hs, h3⟩, if_pos h4]
        have SZ : Hid (∀ x, st.getD k 0 = x → 0 ≤ x → ¬ k < ln.length → gE st ln k = x) := by intro x h1 h3 h4; unfold gE; rw [h1, if_pos ⟨hs, h3⟩, if_neg h4]
        obtain ⟨x, hx⟩ : ∃ x, st.getD k 0 = x := ⟨_, rfl⟩
        rw [hx] at g1 bx
        have HX : Hid (st.getD k 0 = x) := hx
        clear hx
        obtain ⟨bx1, bx2⟩ := bx
        by_cases hp : 0 ≤ x
        · by_cases hs2 : k < ln.length
          · have g2 := (hbel.cell (p := ⟨b2, o2 + k, none⟩) (C2.out k hs2).1).trans (C2.out k hs2).2.1
            have ix2 := (C2.out k hs2).2.2
            have byy := LN.out (ln.getD k 0) (by rw [List.getD_eq_getElem?_getD, List.getElem?_eq_getElem hs2]; exact List.getElem_mem hs2)
            obtain ⟨y, hy⟩ : ∃ y, ln.getD k 0 = y := ⟨_, rfl⟩
            rw [hy] at g2 byy
            have HY : Hid (ln.getD k 0 = y) := hy
            clear hy
            obtain ⟨by1, by2⟩ := byy
            go_wp2
            go_roundw
            case rel => exact ⟨k + 1, by omega, by go_num, rel1 OW.out (SX.out x HX.out hp) (SY.out x y HX.out HY.out hp hs2), bel1 hbel⟩
            case measure => simp [intOf]; omega
          · go_wp2
            go_roundw
            case rel => exact ⟨k + 1, by omega, by go_num, rel1 OW.out (SX.out x HX.out hp) (SZ.out x HX.out hp hs2), bel1 hbel⟩
            case measure => simp [intOf]; omega
        · go_wp2
          go_roundw
          case rel => exact ⟨k + 1, by omega, by go_num, rel1 OW.out (SN.out x HX.out hp).1 (SN.out x HX.out hp).2, bel1 hbel⟩
          case measure => simp [intOf]; omega
      · have SN : Hid (gS st k = -1 ∧ gE st ln k = -1) := by unfold Hid gS gE; rw [if_neg (fun h => hs h.1), if_neg (fun h => hs h.1)]; exact ⟨rfl, rfl⟩
        go_wp2
        go_roundw
        case rel => exact ⟨k + 1, by omega, by go_num, rel1 OW.out SN.out.1 SN.out.2, bel1 hbel⟩
        case measure => simp [intOf]; omega
    · obtain rfl : k = n := by omega
      have hd2 : decide ((k : Int) + 1 ≤ (k : Int)) = false := decide_eq_false (by omega)
      obtain ⟨wb, rfl⟩ : ∃ wb : World, wb = wr := ⟨_, rfl⟩
      have RM : Hid (Row wb (some ⟨w.heap.size, 0, none⟩) (mL k st ln k)) := (own_row OW.out).1
      clear OW
      have hWs := hbel.size
      obtain ⟨G, hG⟩ : ∃ G, wb.heap.size = G := ⟨_, rfl⟩
      go_wp2
      obtain ⟨wa, hwa⟩ : ∃ wa, wb.alloc (Obj.cells #[Value.slice none 0 0, Value.int IntKind.i64 0] 28) = wa := ⟨_, rfl⟩
      have A0 : wa.cell? ⟨G, 0, none⟩ = some (.slice none 0 0) := by rw [← hwa, ← hG]; simp
      have A1 : wa.cell? ⟨G, 1, none⟩ = some (.int .i64 0) := by rw [← hwa, ← hG]; simp
      have A2 : wa.frozen? ⟨G, 0, none⟩ = false := by rw [← hwa, ← hG]; simp
      have A3 : wa.frozen? ⟨G, 1, none⟩ = false := by rw [← hwa, ← hG]; simp
      have A4 : G < wa.heap.size := by rw [← hwa, ← hG]; simp
      have A5 : Below G wb wa := by rw [← hwa, ← hG]; exact (Below.refl _ _).alloc (Nat.le_refl _) _
      rw [hwa]
      have HG : Hid (wb.heap.size = G) := hG
      clear hwa hG
      go_loopw [13] (fun j wx => ∃ (m n c : Nat) (ao : Option Addr), m ≤ k ∧ j = .int .i64 ((m : Int) + 1) ∧ Hid (n = (idx bs m).length) ∧ wx.cell? ⟨G, 0, none⟩ = some (.slice ao n c) ∧ wx.cell? ⟨G, 1, none⟩ = some (.int .i64 0) ∧
          wx.frozen? ⟨G, 0, none⟩ = false ∧ wx.frozen? ⟨G, 1, none⟩ = false ∧ Hid (wx.ownsRow (G + 1) 3 1 (.slice ao n c) n ((zI bs m).map (Value.int .i64))) ∧ G < wx.heap.size ∧ Below G wb wx)
        (fun j _ => k + 1 - (intOf j).toNat)
      case atStart =>
        exact ⟨0, 0, 0, none, Nat.zero_le _, rfl, rfl, A0, A1, A2, A3, World.ownsRow_nil _ _ _ _, A4, A5⟩
      case round =>
        clear A0 A1 A2 A3 A4 A5
        obtain ⟨m, n, c, ao, hm, rfl, HNm, g0, g1, f0, f1, OWN, hGs, hbel2⟩ := hrel
        have nle : n ≤ 1024 := by have := idx_length bs m; have := HNm.out; omega
        by_cases hlt : m < k
        · have gn := ((hbel2.cell (p := ⟨b0, o0 + m, none⟩) (by show b0 < G; have := HG.out; have := (C0.out m hlt).1; omega)).trans (hbel.cell (p := ⟨b0, o0 + m, none⟩) (C0.out m hlt).1)).trans (C0.out m hlt).2.1
          have ix0 := (C0.out m hlt).2.2
          have ZS := zI_succ bs m
          have HZS : Hid (∀ t, bs.getD m false = t → zI bs (m + 1) = zI bs m ++ (if t then [(m : Int) + 1] else [])) := fun t ht => by rw [← ht]; exact ZS
          have HIS : Hid (∀ t, bs.getD m false = t → (idx bs (m + 1)).length = n + (if t then 1 else 0)) := fun t ht => by rw [← zI_length, ZS, ht, List.length_append, zI_length, ← HNm.out]; cases t <;> rfl
          clear ZS
          obtain ⟨t, ht⟩ : ∃ t, bs.getD m false = t := ⟨_, rfl⟩
          rw [ht] at gn
          have HT : Hid (bs.getD m false = t) := ht
          clear ht
          cases t with
          | false =>
            go_wp2
            go_roundw
            case rel =>
              refine ⟨m + 1, n, c, ao, by omega, by go_num, ?_, g0, g1, f0, f1, ?_, hGs, hbel2⟩
              · show n = _; rw [HIS.out false HT.out]; rfl
              · show World.ownsRow _ _ _ _ _ _ _; rw [HZS.out false HT.out]; simpa using OWN.out
            case measure => simp [intOf]; omega
          | true =>
            go_wp2_with (at_builtin; refine wpList_append_own _ rfl _ _ 25 rfl (G + 1) 3 i0 (.int .i64 0) 1 8 Yba.underlying25 hi hz0 hz1 hz2 rfl (by decide) _ _ _ rfl (OWN.out.alloc _) ⟨wr.heap.size, 0, none⟩ 1 1 [.int .i64 ((m : Int) + 1)] rfl rfl ?c1 ?c2 ?c3 ?c4 ?c5 ?_)
            case c1 =>
              intro j u hj
              match j, hj with
              | 0, hj => simp at hj; subst hj; simp [Addr.add]
            case c2 => intro u hu; simp at hu; subst hu; rfl
            case c3 => unfold maxLen; omega
            case c4 => omega
            case c5 => simp; omega
            intro v' w1 hown' hgrow' _
            obtain ⟨ao', c', hv'⟩ := own_slice hown'
            rw [hv'] at hown'
            rw [hv']
            clear hv'
            have kG := keepG OWN.out hgrow' hGs
            have k0 : w1.cell? ⟨G, 0, none⟩ = some (.slice ao n c) := (World.cell?_of_block kG).trans g0
            have k1 : w1.cell? ⟨G, 1, none⟩ = some (.int .i64 0) := (World.cell?_of_block kG).trans g1
            have k2 : w1.frozen? ⟨G, 0, none⟩ = false := (World.frozen?_of_block kG).trans f0
            have k3 : w1.frozen? ⟨G, 1, none⟩ = false := (World.frozen?_of_block kG).trans f1
            have hs1 : wr.heap.size + 1 ≤ w1.heap.size := by have := hgrow'.size; simpa using this
            have O1 : Hid (w1.ownsRow (G + 1) 3 1 (.slice ao' (n + 1) c') (n + 1) ((zI bs (m + 1)).map (Value.int .i64))) := by
              show World.ownsRow _ _ _ _ _ _ _
              rw [HZS.out true HT.out, if_pos rfl, List.map_append]; exact hown'
            have B2 : Below G wb w1 := (hbel2.alloc (by omega) _).grown hgrow' (by simp; omega) (fun b hb => by
              rcases OWN.out.2 with ⟨h, _⟩ | ⟨g, cap, cur, h, hbg, _⟩
              · rw [h] at hb; simp [Value.ownBlock] at hb
              · rw [h] at hb; simp [Value.ownBlock] at hb; omega)
            clear hown' hgrow' kG g0 g1 f0 f1 OWN hbel2
            go_wp2
            go_roundw
            case rel =>
              refine ⟨m + 1, n + 1, c', ao', by omega, by go_num, ?_, ?_, ?_, ?_, ?_, ownsRow_setCell_below O1.out (by show G < G + 1; omega) _, by simp; omega, B2.setCell (Nat.le_refl _) _⟩
              · show n + 1 = _; rw [HIS.out true HT.out]; rfl
              · exact World.cell?_setCell_same _ _ _ k0
              · exact (World.cell?_setCell_other _ _ _ _ (by simp)).trans k1
              · rw [World.frozen?_setCell]; exact k2
              · rw [World.frozen?_setCell]; exact k3
            case measure => simp [intOf]; omega
        · obtain rfl : m = k := by omega
          have hd3 : decide ((m : Int) + 1 ≤ (m : Int)) = false := decide_eq_false (by omega)
          have hWs' := hWs
          have HGo := HG.out
          have hwG : w.heap.size < G := by
            rcases RM.out with ⟨h, _⟩ | ⟨b, h, hlt', _⟩
            · cases h
            · simp only [Option.some.injEq, Addr.mk.injEq, and_true] at h; omega
          have hbel3 : Below w.heap.size w wr := hbel.trans (hbel2.mono (by omega))
          have RM2 : Hid (Row wr (some ⟨w.heap.size, 0, none⟩) (mL m st ln m)) := by
            rcases RM.out with ⟨h, _⟩ | ⟨b, h, hlt', hc⟩
            · cases h
            · simp only [Option.some.injEq, Addr.mk.injEq, and_true] at h
              subst h
              exact .inr ⟨_, rfl, by omega, fun j hj => (hbel2.cell (p := ⟨w.heap.size, j, none⟩) hwG).trans (hc j hj)⟩
          have RI2 := own_row OWN.out
          have RI3 : Hid (Row wr ao (zI bs m)) := RI2.1
          have hZ : Hid ((zI bs m).length = n) := by show _ = _; rw [zI_length]; exact HNm.out.symm
          have hM : Hid ((mL m st ln m).length = 2 * m + 2) := mL_length _ _ _ _
          clear RM hbel hbel2 HG HGo hWs hWs'
          obtain ⟨wc, rfl⟩ : ∃ wc : World, wc = wr := ⟨_, rfl⟩
          by_cases hl1 : n = 1
          case' pos =>
            have HL1 : Hid (n = 1) := hl1
            have hl1' : ((n : Int) == 1) = true := by simp [hl1]
            have hl1'' : (0 : Int) < (n : Int) := by omega
            clear hl1
            obtain ⟨b, hb, hblt, hcell⟩ : ∃ b, ao = some ⟨b, 0, none⟩ ∧ b < wc.heap.size ∧ ∀ j, j < (zI bs m).length → wc.cell? ⟨b, j, none⟩ = some (.int .i64 ((zI bs m).getD j 0)) := by
              rcases RI3.out with ⟨_, h⟩ | h
              · have := hZ.out; rw [h] at this; simp at this; omega
              · exact h
            subst hb
            have hbG := RI2.2 b rfl
            have hc0 := hcell 0 (by have := hZ.out; omega)
            clear hcell RI2
            obtain ⟨only, hx⟩ : ∃ x, (zI bs m).getD 0 0 = x := ⟨_, rfl⟩
            rw [hx] at hc0
            have HO : Hid (OnlyOk (idx bs m) only) := only_one HNm.out HL1.out hx
            clear hx OWN
            go_wp2_with fail
            obtain ⟨wy, hwy⟩ : ∃ wy, wc.setCell ⟨G, 1, none⟩ (.int .i64 only) = wy := ⟨_, rfl⟩
            have RMy : Hid (Row wy (some ⟨w.heap.size, 0, none⟩) (mL m st ln m)) := by
              rw [← hwy]; exact RM2.out.setOther G 1 _ (fun b hb => by simp only [Option.some.injEq, Addr.mk.injEq, and_true] at hb; omega)
            have RIy : Hid (Row wy (some ⟨b, 0, none⟩) (zI bs m)) := by
              rw [← hwy]; exact RI3.out.setOther G 1 _ (fun b hb => by simp only [Option.some.injEq, Addr.mk.injEq, and_true] at hb; omega)
            have g0y : wy.cell? ⟨G, 0, none⟩ = some (.slice (some ⟨b, 0, none⟩) n c) := by rw [← hwy]; exact (World.cell?_setCell_other _ _ _ _ (by simp)).trans g0
            have g1y : wy.cell? ⟨G, 1, none⟩ = some (.int .i64 only) := by rw [← hwy]; exact World.cell?_setCell_same _ _ _ g1
            have hGy : G < wy.heap.size := by rw [← hwy]; simpa using hGs
            have hby : Below w.heap.size w wy := by rw [← hwy]; exact hbel3.setCell (by show w.heap.size ≤ G; omega) _
            rw [hwy]
            clear hwy
          case' neg =>
            have hl1' : ((n : Int) == 1) = false := by simp; omega
            have HO : Hid (OnlyOk (idx bs m) 0) := .inr ⟨rfl, by rw [← HNm.out]; exact hl1⟩
            clear OWN RI2
            go_wp2_with fail
            obtain ⟨wy, rfl⟩ : ∃ wy : World, wy = wc := ⟨_, rfl⟩
            have RMy := RM2
            have RIy := RI3
            have g0y := g0
            have g1y := g1
            have hGy := hGs
            have hby := hbel3
          all_goals
            clear RM2 RI3 hbel3 g0 g1 f0 f1 hGs
            refine (clone_law _ _ _ (mL m st ln m) _ hM.out (by omega) RMy.out).mono ?_
            rintro e w2 ⟨am, cm, rfl, RMc, hb2⟩
            have g0b := (hb2.cell (p := ⟨G, 0, none⟩) hGy).trans g0y
            have g1b := (hb2.cell (p := ⟨G, 1, none⟩) hGy).trans g1y
            have RMb : Hid (Row w2 _ (mL m st ln m)) := RMy.out.kept hb2
            have RIb : Hid (Row w2 _ (zI bs m)) := RIy.out.kept hb2
            have RMcb : Hid (Row w2 am (mL m st ln m)) := RMc
            have hbw : Below w.heap.size w w2 := hby.trans (hb2.mono (by omega))
            have hGb : G < w2.heap.size := Nat.lt_of_lt_of_le hGy hb2.size
            clear g0y g1y RMy RIy RMc hb2 hby hGy
            go_wp2_with fail
            refine (clone_law _ _ _ (zI bs m) _ hZ.out (by omega) RIb.out).mono ?_
            rintro e w3 ⟨ai, ci, rfl, RIc, hb3⟩
            have g0c := (hb3.cell (p := ⟨G, 0, none⟩) hGb).trans g0b
            have g1c := (hb3.cell (p := ⟨G, 1, none⟩) hGb).trans g1b
            have RM3 : Hid (Row w3 _ (mL m st ln m)) := RMb.out.kept hb3
            have RI4 : Hid (Row w3 _ (zI bs m)) := RIb.out.kept hb3
            have RMc3 : Hid (Row w3 am (mL m st ln m)) := RMcb.out.kept hb3
            have RIc3 : Hid (Row w3 ai (zI bs m)) := RIc
            have hbw3 : Below w.heap.size w w3 := hbw.trans (hb3.mono (by omega))
            clear g0b g1b RMb RIb RMcb RIc hb3 hbw hGb
            go_wp2
            go_loop [17, 18, 19] (fun ws we j => ∃ r : Nat, r ≤ m ∧ j = .int .i64 ((r : Int) + 1) ∧ ws = .int .i64 (-1) ∧ we = .int .i64 (-1) ∧ Hid ((List.range r).find? (fun j => bs.getD j false && decide (0 ≤ gS st j)) = none))
              (fun _ _ j => m + 1 - (intOf j).toNat)
            case atStart => exact ⟨0, Nat.zero_le _, rfl, rfl, rfl, rfl⟩
            case round =>
              obtain ⟨r, hr, rfl, rfl, rfl, HF⟩ := hrel
              by_cases hlt : r < m
              · have gn := (hbw3.cell (p := ⟨b0, o0 + r, none⟩) (C0.out r hlt).1).trans (C0.out r hlt).2.1
                have ix0 := (C0.out r hlt).2.2
                have MISS : Hid (∀ t, bs.getD r false = t → (t && decide (0 ≤ gS st r)) = false → (List.range (r + 1)).find? (fun j => bs.getD j false && decide (0 ≤ gS st j)) = none) := by
                  intro t h1 h2; exact want_none_succ bs st r HF.out (by rw [h1]; exact h2)
                have HIT : Hid (∀ t, bs.getD r false = t → (t && decide (0 ≤ gS st r)) = true → wantS bs st ln m = (gS st r, gE st ln r)) := by
                  intro t h1 h2; exact want_hit bs st ln m r hlt HF.out (by rw [h1]; exact h2)
                obtain ⟨t, ht⟩ : ∃ t, bs.getD r false = t := ⟨_, rfl⟩
                rw [ht] at gn
                have HT : Hid (bs.getD r false = t) := ht
                clear ht
                cases t with
                | false =>
                  go_wp2
                  go_round
                  case rel => exact ⟨r + 1, by omega, by go_num, rfl, rfl, MISS.out false HT.out rfl⟩
                  case measure => simp [intOf]; omega
                | true =>
                  by_cases hs : r < st.length
                  · have g1 := (hbw3.cell (p := ⟨b1, o1 + r, none⟩) (C1.out r hs).1).trans (C1.out r hs).2.1
                    have ix1 := (C1.out r hs).2.2
                    have bx := ST.out (st.getD r 0) (by rw [List.getD_eq_getElem?_getD, List.getElem?_eq_getElem hs]; exact List.getElem_mem hs)
                    have SX : Hid (∀ x, st.getD r 0 = x → 0 ≤ x → gS st r = x) := by intro x h1 h2; unfold gS; rw [h1, if_pos ⟨hs, h2⟩]
                    have SN : Hid (∀ x, st.getD r 0 = x → ¬ 0 ≤ x → gS st r = -1 ∧ gE st ln r = -1) := by intro x h1 h2; unfold gS gE; rw [h1, if_neg (fun h => h2 h.2), if_neg (fun h => h2 h.2)]; exact ⟨rfl, rfl⟩
                    have SY : Hid (∀ x y, st.getD r 0 = x → ln.getD r 0 = y → 0 ≤ x → r < ln.length → gE st ln r = x + y) := by intro x y h1 h2 h3 h4; unfold gE; rw [h1, h2, if_pos ⟨hs, h3⟩, if_pos h4]
                    have SZ : Hid (∀ x, st.getD r 0 = x → 0 ≤ x → ¬ r < ln.length → gE st ln r = x) := by intro x h1 h3 h4; unfold gE; rw [h1, if_pos ⟨hs, h3⟩, if_neg h4]
                    obtain ⟨x, hx⟩ : ∃ x, st.getD r 0 = x := ⟨_, rfl⟩
                    rw [hx] at g1 bx
                    have HX : Hid (st.getD r 0 = x) := hx
                    clear hx
                    obtain ⟨bx1, bx2⟩ := bx
                    by_cases hp : 0 ≤ x
                    · by_cases hs2 : r < ln.length
                      · have g2 := (hbw3.cell (p := ⟨b2, o2 + r, none⟩) (C2.out r hs2).1).trans (C2.out r hs2).2.1
                        have ix2 := (C2.out r hs2).2.2
                        have byy := LN.out (ln.getD r 0) (by rw [List.getD_eq_getElem?_getD, List.getElem?_eq_getElem hs2]; exact List.getElem_mem hs2)
                        obtain ⟨y, hy⟩ : ∃ y, ln.getD r 0 = y := ⟨_, rfl⟩
                        rw [hy] at g2 byy
                        have HY : Hid (ln.getD r 0 = y) := hy
                        clear hy
                        obtain ⟨by1, by2⟩ := byy
                        have HP : Hid (wantS bs st ln m = (x, x + y)) := by
                          have h := HIT.out true HT.out (by rw [SX.out x HX.out hp]; simp [hp])
                          rw [SX.out x HX.out hp, SY.out x y HX.out HY.out hp hs2] at h
                          exact h
                        go_wp2_with fail
                        refine (span_law _ _ _ _ _ _ m _ bs st ln _ _ _ _ hn HNm.out rfl HP.out HO.out g0c g1c RI4.out RM3.out).mono ?_
                        rintro e w4 ⟨rfl, q, rfl⟩
                        go_wp2_with fail
                        refine (equal_law _ _ _ _ _ (mL m st ln m) _ hM.out (by omega) (RM3.out.drewN q) (RMc3.out.drewN q)).mono ?_
                        rintro e w5 ⟨rfl, q2, rfl⟩
                        go_wp2_with fail
                        refine (equal_law _ _ _ _ _ (zI bs m) _ hZ.out (by omega) (RI4.out.drewN (q + q2)) (RIc3.out.drewN (q + q2))).mono ?_
                        rintro e w6 ⟨rfl, q3, rfl⟩
                        go_wp2
                        go_ret
                        exact ⟨rfl, belN hbw3 _⟩
                      · have HP : Hid (wantS bs st ln m = (x, x)) := by
                          have h := HIT.out true HT.out (by rw [SX.out x HX.out hp]; simp [hp])
                          rw [SX.out x HX.out hp, SZ.out x HX.out hp hs2] at h
                          exact h
                        go_wp2_with fail
                        refine (span_law _ _ _ _ _ _ m _ bs st ln _ _ _ _ hn HNm.out rfl HP.out HO.out g0c g1c RI4.out RM3.out).mono ?_
                        rintro e w4 ⟨rfl, q, rfl⟩
                        go_wp2_with fail
                        refine (equal_law _ _ _ _ _ (mL m st ln m) _ hM.out (by omega) (RM3.out.drewN q) (RMc3.out.drewN q)).mono ?_
                        rintro e w5 ⟨rfl, q2, rfl⟩
                        go_wp2_with fail
                        refine (equal_law _ _ _ _ _ (zI bs m) _ hZ.out (by omega) (RI4.out.drewN (q + q2)) (RIc3.out.drewN (q + q2))).mono ?_
                        rintro e w6 ⟨rfl, q3, rfl⟩
                        go_wp2
                        go_ret
                        exact ⟨rfl, belN hbw3 _⟩
                    · go_wp2
                      go_round
                      case rel => exact ⟨r + 1, by omega, by go_num, rfl, rfl, MISS.out true HT.out (by rw [(SN.out x HX.out hp).1]; rfl)⟩
                      case measure => simp [intOf]; omega
                  · have SN : Hid (gS st r = -1) := by unfold Hid gS; rw [if_neg (fun h => hs h.1)]
                    go_wp2
                    go_round
                    case rel => exact ⟨r + 1, by omega, by go_num, rfl, rfl, MISS.out true HT.out (by rw [SN.out]; rfl)⟩
                    case measure => simp [intOf]; omega
              · obtain rfl : r = m := by omega
                have HP : Hid (wantS bs st ln r = (-1, -1)) := want_none bs st ln r HF.out
                go_wp2_with fail
                refine (span_law _ _ _ _ _ _ r _ bs st ln _ _ _ _ hn HNm.out rfl HP.out HO.out g0c g1c RI4.out RM3.out).mono ?_
                rintro e w4 ⟨rfl, q, rfl⟩
                go_wp2_with fail
                refine (equal_law _ _ _ _ _ (mL r st ln r) _ hM.out (by omega) (RM3.out.drewN q) (RMc3.out.drewN q)).mono ?_
                rintro e w5 ⟨rfl, q2, rfl⟩
                go_wp2_with fail
                refine (equal_law _ _ _ _ _ (zI bs r) _ hZ.out (by omega) (RI4.out.drewN (q + q2)) (RIc3.out.drewN (q + q2))).mono ?_
                rintro e w6 ⟨rfl, q3, rfl⟩
                go_wp2
                go_ret
                exact ⟨rfl, belN hbw3 _⟩
end Go.Proofs.Ybulkbywe
