import Derived.Test.YbulkbyzyEq
import Derived.Deep.RegionWith
import Derived.Deep.DeepCutAuto
namespace Go.Proofs.Ybulkbyzy
open Go.RowKit

/-- A guarded load, its guard met, by its run. -/
theorem wpList_load_wanted {P : Program} {ops : Array Oper} {rest : List Oper} {o : Oper} {a : Act} {w : World} {Q : Exit → Act → World → Prop} (hw : Region.wanted o (yielded ops a.tmps) = true) (ty : TypeId) (x : Operand) (ho : o.op = .load ty x) (ad : Addr) (hx : a.eval x = .pointer (some ad)) (v : Value)
    (hrun : (loadVar ty ad).run P w = .ok v w) (h : wpList P ops Q rest (a.put o.dst v) w) : wpList P ops Q (o :: rest) a w :=
  wpList_step fun _ hK => by
    rw [if_pos hw]
    unfold Oper.wp execOp
    simp only [ho, hx, Instr.loadAt, Instr.sureAddr, Sem.run_bind, Sem.run_pure, Result.andThen_ok, hrun]
    exact hK _ _ h

theorem wrap_small (q : Nat) (h : q < 1000) : IntKind.i64.wrap (q : Int) = (q : Int) := by
  rw [IntKind.wrap_i64]; omega

set_option maxHeartbeats 4000000 in
set_option maxRecDepth 100000 in
theorem count_walk (a0 : Option Addr) (n0 c0 b0 o0 n : Nat) (zs : List Int) (c tm : Int) (w : World) (hn : n = if 81 < n0 then 81 else n0) (hn0 : n0 ≤ maxLen)
    (hz : ∀ j, j < n → 0 ≤ zs.getD j 0 ∧ zs.getD j 0 ≤ 255)
    (h0 : ∀ j, j < n0 → b0 < w.heap.size ∧ w.cell? ⟨b0, o0 + j, none⟩ = some (.int .u8 (zs.getD j 0)) ∧ ∀ W, (Instr.indexAt 22 (.slice a0 n0 c0) (.int .i64 (j : Int))).run Yba.prog W = .ok (.pointer (some ⟨b0, o0 + j, none⟩)) W) :
    Calls Yba.prog 3 #[.slice a0 n0 c0, .int .i8 c, .int .i8 tm] w fun e w' => e = .returned (.bool true) ∧ Below w.heap.size w w' := by
  have C0 : Hid (∀ j, j < n0 → b0 < w.heap.size ∧ w.cell? ⟨b0, o0 + j, none⟩ = some (.int .u8 (zs.getD j 0)) ∧ ∀ W, (Instr.indexAt 22 (.slice a0 n0 c0) (.int .i64 (j : Int))).run Yba.prog W = .ok (.pointer (some ⟨b0, o0 + j, none⟩)) W) := h0
  have Z0 : Hid (∀ j, j < n → 0 ≤ zs.getD j 0 ∧ zs.getD j 0 ≤ 255) := hz
  have hnle : n ≤ n0 := by rw [hn]; split <;> omega
  have hn81 : n ≤ 81 := by rw [hn]; split <;> omega
  have HN : Hid (n = if 81 < n0 then 81 else n0) := hn
  unfold maxLen at hn0
  clear h0 hz hn
  obtain ⟨A, hA⟩ : ∃ A, (enc bare ++ restOf 0).toArray = A := ⟨_, rfl⟩
  have hzv := zero33
  rw [hA] at hzv
  have HA : Hid ((enc bare ++ restOf 0).toArray = A) := hA
  clear hA
  go_enter Yba.func3, Yba.ntmps3
  go_upto_if 21 with (fail)
  go_cut [8] (fun s8 wc => s8 = .int .i64 (n : Int) ∧ wc = w.alloc (.cells A 33))
  case first =>
    go_wp2
    · have h1 : (81 : Int) < (n0 : Int) := by assumption
      go_meet
      case rel =>
        refine ⟨?_, rfl⟩
        have : n = 81 := by rw [HN.out, if_pos (by omega)]
        rw [this]; rfl
    · have h1 : ¬ (81 : Int) < (n0 : Int) := by first | assumption | omega
      go_meet
      case rel =>
        refine ⟨?_, rfl⟩
        have : n = n0 := by rw [HN.out, if_neg (by omega)]
        rw [this]
  case rest =>
    obtain ⟨rfl, rfl⟩ := hcut
    clear HN
    go_wp2
    obtain ⟨B, hB⟩ : ∃ B, w.heap.size = B := ⟨_, rfl⟩
    obtain ⟨wa, hwa⟩ : ∃ wa, w.alloc (Obj.cells A 33) = wa := ⟨_, rfl⟩
    have A0 : PosAt wa B (bdk zs 0) (restOf 0) := by
      unfold PosAt bdk
      rw [← hwa, ← hB, heap_alloc_new, ← HA.out]
    have A2 : Below B w wa := by rw [← hwa, ← hB]; exact (Below.refl _ _).alloc (Nat.le_refl _) _
    rw [hwa, hB]
    have HB : Hid (w.heap.size = B) := hB
    clear hwa hB
    go_loopw [9] (fun t9 wr => ∃ k : Nat, k ≤ n ∧ t9 = .int .i64 (k : Int) ∧ Hid (PosAt wr B (bdk zs k) (restOf 0)) ∧ Below B w wr)
      (fun t9 _ => n - (intOf t9).toNat)
    case atStart => exact ⟨0, Nat.zero_le _, rfl, A0, A2⟩
    case round =>
      clear A0 A2
      obtain ⟨k, hk, rfl, HP, hbel⟩ := hrel
      by_cases hlt : k < n
      · have hlti : (k : Int) < (n : Int) := by omega
        have hb0 := (C0.out k (by omega)).1
        have gz := (hbel.cell (p := ⟨b0, o0 + k, none⟩) (by show b0 < B; have := HB.out; omega)).trans (C0.out k (by omega)).2.1
        have ix := (C0.out k (by omega)).2.2
        have bz := Z0.out k hlt
        obtain ⟨z, hz⟩ : ∃ z, zs.getD k 0 = z := ⟨_, rfl⟩
        rw [hz] at gz bz
        have HZ : Hid (zs.getD k 0 = z) := hz
        clear hz
        obtain ⟨bz1, bz2⟩ := bz
        obtain ⟨q, hq⟩ : ∃ q, k / 9 = q := ⟨_, rfl⟩
        obtain ⟨r, hr⟩ : ∃ r, k % 9 = r := ⟨_, rfl⟩
        have eQ : (k : Int) / 9 = (q : Int) := by omega
        have eR : (k : Int) % 9 = (r : Int) := by omega
        have hq9 : (q : Int) < 9 := by omega
        have hr9 : (r : Int) < 9 := by omega
        have wq : IntKind.i64.wrap (q : Int) = (q : Int) := wrap_small q (by omega)
        have wr' : IntKind.i64.wrap (r : Int) = (r : Int) := wrap_small r (by omega)
        have eT : (k : Int).tmod 9 = (r : Int) := by rw [Int.tmod_eq_emod_of_nonneg (by omega)]; exact eR
        have HQR : Hid (k = q * 9 + r) := by show k = q * 9 + r; omega
        clear hq hr
        have hbB : B < wr.heap.size := (Array.getElem?_eq_some_iff.1 HP.out).1
        obtain ⟨v0, d0⟩ := HP.out.cell (q * 18 + r * 2) (by rw [bdk_length]; omega)
        obtain ⟨v1, d1⟩ := HP.out.cell (q * 18 + r * 2 + 1) (by rw [bdk_length]; omega)
        have f0 := frozen_of_row wr B (q * 18 + r * 2) _ 33 HP.out
        have f1 := frozen_of_row wr B (q * 18 + r * 2 + 1) _ 33 HP.out
        obtain ⟨p1, p2, hp⟩ : ∃ p1 p2, pc z = (p1, p2) := ⟨_, _, rfl⟩
        have PCC : Hid (∀ W, Calls Yba.prog 5 #[.int .u8 z] W fun e w' => e = .returned (.agg #[.int .i8 p1, .int .i8 p2]) ∧ w' = W.alloc (.cells #[.int .i8 p1, .int .i8 p2] 27)) := by
          intro W
          have := piece_any z W bz1 bz2
          rw [hp] at this
          exact this
        have HPC : Hid (pc z = (p1, p2)) := hp
        clear hp
        go_wp2
        go_region_with (go_at_call 5; refine (PCC.out _).mono ?_; rintro e w' ⟨rfl, rfl⟩)
        go_wp2
        go_roundw
        case rel =>
          refine ⟨k + 1, by omega, by go_num, ?_, (((hbel.setCell (Nat.le_refl _) _).setCell (Nat.le_refl _) _).alloc (by simp; omega) _).drew⟩
          have := posStep (p1 := p1) (p2 := p2) (O := Obj.cells #[.int .i8 p1, .int .i8 p2] 27) HP.out HQR.out (by rw [bdk_length]; omega)
          show PosAt _ B ((bdk zs k).set k (pc (zs.getD k 0))) (restOf 0)
          rw [HZ.out, HPC.out]
          exact this
        case measure => simp [intOf]; omega
      · obtain rfl : k = n := by omega
        have hd2 : decide ((k : Int) < (k : Int)) = false := decide_eq_false (by omega)
        have hbl := bdk_length zs k
        have HBL : Hid ((bdk zs k).length = 81) := hbl
        have l0 := HP.out.last hbl
        have f0 := frozen_of_row wr B 178 _ 33 HP.out
        have hbB := HP.out.size
        clear hbl
        obtain ⟨wt, hwt⟩ : ∃ wt, wr.setCell ⟨B, 178, none⟩ (.int .i8 tm) = wt := ⟨_, rfl⟩
        have HPt : Hid (PosAt wt B (bdk zs k) (restOf tm)) := by rw [← hwt]; exact HP.out.setLast HBL.out
        have hbt : Below B w wt := by rw [← hwt]; exact hbel.setCell (Nat.le_refl _) _
        have hbBt : B < wt.heap.size := HPt.out.size
        have hsA : A.size = 179 := by rw [← HA.out]; exact bare_size
        have HSA : Hid (A.size = 179) := hsA
        clear hsA
        obtain ⟨CS, hCS⟩ : ∃ CS, (enc (bdk zs k) ++ restOf tm).toArray = CS := ⟨_, rfl⟩
        have LD : Hid ((loadVar 33 ⟨B, 0, none⟩).run Yba.prog wt = .ok (.agg CS) wt) := by rw [← hCS]; exact HPt.out.load HBL.out
        have ST : Hid ((storeVar 33 ⟨wt.heap.size, 0, none⟩ (.agg CS)).run Yba.prog (wt.alloc (.cells A 33)) = .ok () (wt.alloc (.cells CS 33))) := by rw [← hCS]; exact store_pos wt A (bdk zs k) tm HBL.out HSA.out
        have HCS : Hid ((enc (bdk zs k) ++ restOf tm).toArray = CS) := hCS
        clear hCS
        go_wp2_with (first
          | (refine wpList_load_run rfl 33 (.tmp 7) rfl ⟨B, 0, none⟩ rfl (.agg CS) LD.out ?_)
          | (refine wpList_store_run rfl 33 (.tmp 10) (.tmp 41) rfl ⟨wt.heap.size, 0, none⟩ (.agg CS) (wt.alloc (.cells CS 33)) rfl rfl ST.out ?_))
        clear hwt l0 f0
        obtain ⟨wu, hwu⟩ : ∃ wu, wt.alloc (.cells CS 33) = wu := ⟨_, rfl⟩
        have hBu : B < wu.heap.size := by rw [← hwu]; simp; omega
        have HPu : Hid (PosAt wu B (bdk zs k) (restOf tm)) := by rw [← hwu]; unfold Hid PosAt; rw [Below.heap_alloc _ _ _ hbBt]; exact HPt.out
        have HQu : Hid (PosAt wu wt.heap.size (bdk zs k) (restOf tm)) := by rw [← hwu]; unfold Hid PosAt; rw [heap_alloc_new, HCS.out]
        have hbu : Below B w wu := by rw [← hwu]; exact hbt.alloc (by omega) _
        have hsu : wt.heap.size < wu.heap.size := by rw [← hwu]; simp
        obtain ⟨B2, hB2⟩ : ∃ B2, wt.heap.size = B2 := ⟨_, rfl⟩
        rw [hB2] at HQu hsu ⊢
        rw [hwu]
        clear hwu LD ST HPt hbt hbBt hB2 HP hbel hbB HSA
        obtain ⟨x, y, m, hK⟩ : ∃ x y m, kz zs c k = (x, y, m) := ⟨_, _, _, rfl⟩
        have HKZ : Hid (kz zs c k = (x, y, m)) := hK
        have HKS : Hid (kst (bdk zs k) c 81 = (x, y, m)) := by unfold Hid; rw [kst_n zs c k hn81]; exact hK
        clear hK
        refine (king_any B c (bdk zs k) wu HBL.out hBu (fun j v hj => HPu.out.at j v hj)).mono ?_
        rw [HKS.out]
        rintro e w2 ⟨rfl, hb2⟩
        have HP2 : Hid (PosAt w2 B (bdk zs k) (restOf tm)) := HPu.out.kept hb2 hBu
        have HQ2 : Hid (PosAt w2 B2 (bdk zs k) (restOf tm)) := HQu.out.kept hb2 hsu
        have hbw2 : Below B w w2 := hbu.trans (hb2.mono (by omega))
        have hs2 := hb2.size
        have s1 : B < w2.heap.size := by omega
        have s2 : B2 < w2.heap.size := by omega
        clear HPu HQu hb2 hbu hsu hBu hs2
        go_wp2
        obtain ⟨S1, hS1⟩ : ∃ S1, w2.heap.size = S1 := ⟨_, rfl⟩
        obtain ⟨w3, hw3⟩ : ∃ w3, (w2.alloc (Obj.cells #[Value.int IntKind.i64 x, Value.int IntKind.i64 y] 36)).alloc (Obj.cells #[Value.int IntKind.i8 8, Value.int IntKind.i8 c] 27) = w3 := ⟨_, rfl⟩
        have e0 : w3.cell? ⟨S1, 0, none⟩ = some (.int .i64 x) := by rw [← hw3, ← hS1]; simp
        have e1 : w3.cell? ⟨S1, 1, none⟩ = some (.int .i64 y) := by rw [← hw3, ← hS1]; simp
        have q0 : w3.cell? ⟨S1 + 1, 0, none⟩ = some (.int .i8 8) := by rw [← hw3, ← hS1]; simp
        have q1 : w3.cell? ⟨S1 + 1, 1, none⟩ = some (.int .i8 c) := by rw [← hw3, ← hS1]; simp
        have hM : w3.heap.size = S1 + 2 := by rw [← hw3, ← hS1]; simp
        have hb23 : Below w2.heap.size w2 w3 := by rw [← hw3]; exact ((Below.refl _ _).alloc (Nat.le_refl _) _).alloc (by simp) _
        have hbw3 : Below B w w3 := hbw2.trans (hb23.mono (by omega))
        have HP3 : Hid (PosAt w3 B (bdk zs k) (restOf tm)) := HP2.out.kept hb23 s1
        have HQ3 : Hid (PosAt w3 B2 (bdk zs k) (restOf tm)) := HQ2.out.kept hb23 s2
        have E0 : Hid (w3.cell? ⟨S1, 0, none⟩ = some (.int .i64 x)) := e0
        have E1 : Hid (w3.cell? ⟨S1, 1, none⟩ = some (.int .i64 y)) := e1
        have Q0 : Hid (w3.cell? ⟨S1 + 1, 0, none⟩ = some (.int .i8 8)) := q0
        have Q1 : Hid (w3.cell? ⟨S1 + 1, 1, none⟩ = some (.int .i8 c)) := q1
        have HM : Hid (w3.heap.size = S1 + 2) := hM
        have hBS : B < S1 := by omega
        have hB2S : B2 < S1 := by omega
        have hwB : Hid (w.heap.size = B) := HB
        rw [hw3, hS1]
        clear hw3 hS1 e0 e1 q0 q1 hM hb23 HP2 HQ2 hbw2 s1 s2
        go_loopw [14, 15] (fun t14 t15 wx => ∃ (i : Nat) (u : Int), i ≤ k ∧ t15 = .int .i64 i ∧ t14 = .int .i64 u ∧ Hid ((kz zs c i).2.2 = u) ∧ 0 ≤ u ∧ u ≤ i ∧ Below (S1 + 2) w3 wx)
          (fun _ t15 _ => k - (intOf t15).toNat)
        case atStart => exact ⟨0, 0, Nat.zero_le _, rfl, rfl, rfl, Int.le_refl _, Int.le_refl _, Below.refl _ _⟩
        case round =>
          obtain ⟨i, u, hi, rfl, rfl, HU, hu0, hu1, hbx⟩ := hrel
          have sx : S1 + 2 ≤ wr.heap.size := by have := hbx.size; have := HM.out; omega
          by_cases hlt : i < k
          · have hlti : (i : Int) < (k : Int) := by omega
            have hb0 := (C0.out i (by omega)).1
            have gz := ((hbx.cell (p := ⟨b0, o0 + i, none⟩) (by show b0 < S1 + 2; have := HB.out; omega)).trans (hbw3.cell (p := ⟨b0, o0 + i, none⟩) (by show b0 < B; have := HB.out; omega))).trans (C0.out i (by omega)).2.1
            have ix := (C0.out i (by omega)).2.2
            have sx1 : S1 + 1 < wr.heap.size := by omega
            have sx0 : b0 < wr.heap.size := by have := HB.out; omega
            have g0 := (hbx.cell (p := ⟨S1 + 1, 0, none⟩) (by show S1 + 1 < S1 + 2; omega)).trans Q0.out
            have g1 := (hbx.cell (p := ⟨S1 + 1, 1, none⟩) (by show S1 + 1 < S1 + 2; omega)).trans Q1.out
            have bz := Z0.out i hlt
            have KS : Hid (∀ z, zs.getD i 0 = z → pc z = (8, c) → (kz zs c (i + 1)).2.2 = u + 1) := by
              intro z h1 h2; rw [kz, h1, if_pos h2, ← HU.out]
            have KN : Hid (∀ z, zs.getD i 0 = z → ¬ pc z = (8, c) → (kz zs c (i + 1)).2.2 = u) := by
              intro z h1 h2; rw [kz, h1, if_neg h2]; exact HU.out
            obtain ⟨z, hz⟩ : ∃ z, zs.getD i 0 = z := ⟨_, rfl⟩
            rw [hz] at gz bz
            have HZ : Hid (zs.getD i 0 = z) := hz
            clear hz
            obtain ⟨bz1, bz2⟩ := bz
            obtain ⟨p1, p2, hp⟩ : ∃ p1 p2, pc z = (p1, p2) := ⟨_, _, rfl⟩
            have PCC : Hid (∀ W, Calls Yba.prog 5 #[.int .u8 z] W fun e w' => e = .returned (.agg #[.int .i8 p1, .int .i8 p2]) ∧ w' = W.alloc (.cells #[.int .i8 p1, .int .i8 p2] 27)) := by
              intro W
              have := piece_any z W bz1 bz2
              rw [hp] at this
              exact this
            have HPC : Hid (pc z = (p1, p2)) := hp
            clear hp
            by_cases t1 : p1 = 8
            · by_cases t2 : p2 = c
              · have v1 : (p1 == 8) = true := by simp [t1]
                have v2 : (p2 == c) = true := by simp [t2]
                have HU2 : Hid ((kz zs c (i + 1)).2.2 = u + 1) := KS.out z HZ.out (by rw [HPC.out, t1, t2])
                clear t1 t2 KS KN
                go_wp2
                go_region_with (go_at_call 5; refine (PCC.out _).mono ?_; rintro e w' ⟨rfl, rfl⟩)
                all_goals
                  go_wp2
                  go_roundw
                  case rel => exact ⟨i + 1, u + 1, by omega, by go_num, rfl, HU2, by omega, by omega, (hbx.alloc sx _).drew⟩
                  case measure => simp [intOf]; omega
              · have v1 : (p1 == 8) = true := by simp [t1]
                have v2 : (p2 == c) = false := by simp [t2]
                have HU2 : Hid ((kz zs c (i + 1)).2.2 = u) := KN.out z HZ.out (by rw [HPC.out]; simp [t2])
                clear t1 t2 KS KN
                go_wp2
                go_region_with (go_at_call 5; refine (PCC.out _).mono ?_; rintro e w' ⟨rfl, rfl⟩)
                all_goals
                  go_wp2
                  go_roundw
                  case rel => exact ⟨i + 1, u, by omega, by go_num, rfl, HU2, by omega, by omega, (hbx.alloc sx _).drew⟩
                  case measure => simp [intOf]; omega
            · have v1 : (p1 == 8) = false := by simp [t1]
              have HU2 : Hid ((kz zs c (i + 1)).2.2 = u) := KN.out z HZ.out (by rw [HPC.out]; simp [t1])
              clear t1 KS KN
              go_wp2
              go_region_with (go_at_call 5; refine (PCC.out _).mono ?_; rintro e w' ⟨rfl, rfl⟩)
              all_goals
                go_wp2
                go_roundw
                case rel => exact ⟨i + 1, u, by omega, by go_num, rfl, HU2, by omega, by omega, (hbx.alloc sx _).drew⟩
                case measure => simp [intOf]; omega
          · obtain rfl : i = k := by omega
            have hd3 : decide ((i : Int) < (i : Int)) = false := decide_eq_false (by omega)
            have bm : (m == u) = true := by have h := HU.out; rw [HKZ.out] at h; simpa using h
            have hby0 := hbx
            have LDB : Hid (∀ W, Below (S1 + 2) w3 W → (loadVar 33 ⟨B, 0, none⟩).run Yba.prog W = .ok (.agg CS) W) := by
              intro W hW; rw [← HCS.out]; exact (HP3.out.kept hW (by omega)).load HBL.out
            have LDB2 : Hid (∀ W, Below (S1 + 2) w3 W → (loadVar 33 ⟨B2, 0, none⟩).run Yba.prog W = .ok (.agg CS) W) := by
              intro W hW; rw [← HCS.out]; exact (HQ3.out.kept hW (by omega)).load HBL.out
            have EQ : ∀ W, (Op.equalIn 10000 33 (.agg CS) (.agg CS)).run Yba.prog W = .ok true W := by
              intro W; rw [← HCS.out]; exact eqPos W (bdk zs i) tm HBL.out
            have HKX : Hid ((kz zs c i).1 = x ∧ (kz zs c i).2.1 = y) := by unfold Hid; rw [HKZ.out]; exact ⟨rfl, rfl⟩
            clear HP3 HQ3 HKS HU hzv HA HCS
            obtain ⟨wx, rfl⟩ : ∃ wx : World, wx = wr := ⟨_, rfl⟩
            go_wp2
            obtain ⟨Qb, hQb⟩ : ∃ Qb, wx.heap.size = Qb := ⟨_, rfl⟩
            obtain ⟨w4, hw4⟩ : ∃ w4, wx.alloc (Obj.cells #[Value.int IntKind.i64 0, Value.int IntKind.i64 0] 36) = w4 := ⟨_, rfl⟩
            have d0 : w4.cell? ⟨Qb, 0, none⟩ = some (.int .i64 0) := by rw [← hw4, ← hQb]; simp
            have d1 : w4.cell? ⟨Qb, 1, none⟩ = some (.int .i64 0) := by rw [← hw4, ← hQb]; simp
            have d2 : w4.frozen? ⟨Qb, 0, none⟩ = false := by rw [← hw4, ← hQb]; simp
            have d3 : w4.frozen? ⟨Qb, 1, none⟩ = false := by rw [← hw4, ← hQb]; simp
            have hb34 : Below (S1 + 2) w3 w4 := by rw [← hw4]; exact hby0.alloc sx _
            have hq4 : w4.heap.size = Qb + 1 := by rw [← hw4, ← hQb]; simp
            have D0 : Hid (w4.cell? ⟨Qb, 0, none⟩ = some (.int .i64 0)) := d0
            have D1 : Hid (w4.cell? ⟨Qb, 1, none⟩ = some (.int .i64 0)) := d1
            have D2 : Hid (w4.frozen? ⟨Qb, 0, none⟩ = false) := d2
            have D3 : Hid (w4.frozen? ⟨Qb, 1, none⟩ = false) := d3
            have HQ4 : Hid (w4.heap.size = Qb + 1) := hq4
            have hQS : S1 + 2 ≤ Qb := by omega
            rw [hw4, hQb]
            clear hw4 hQb d0 d1 d2 d3 hq4 hby0 hbx sx hd3
            go_loopw [17] (fun t17 wy => ∃ (j : Nat) (t : Int), t = (j : Int) - 1 ∧ j ≤ i ∧ t17 = .int .i64 t ∧ Hid ((kz zs c j).1 = x ∧ (kz zs c j).2.1 = y) ∧ Below (Qb + 1) w4 wy)
              (fun t17 _ => (intOf t17 + 1).toNat)
            case atStart => exact ⟨i, _, rfl, Nat.le_refl _, rfl, HKX, Below.refl _ _⟩
            case round =>
              obtain ⟨j, t, ht, hj, rfl, HS1, hbv⟩ := hrel
              have sq : Qb + 1 ≤ wr.heap.size := by have := hbv.size; have := HQ4.out; omega
              have sqb : Qb < wr.heap.size := by omega
              have sS1 : S1 < wr.heap.size := by omega
              have hby : Below (S1 + 2) w3 wr := hb34.trans (hbv.mono (by omega))
              have h0 := (hbv.cell (p := ⟨Qb, 0, none⟩) (by show Qb < Qb + 1; omega)).trans D0.out
              have h1 := (hbv.cell (p := ⟨Qb, 1, none⟩) (by show Qb < Qb + 1; omega)).trans D1.out
              have j0 := (hbv.frozen (p := ⟨Qb, 0, none⟩) (by show Qb < Qb + 1; omega)).trans D2.out
              have j1 := (hbv.frozen (p := ⟨Qb, 1, none⟩) (by show Qb < Qb + 1; omega)).trans D3.out
              have e0 := (hby.cell (p := ⟨S1, 0, none⟩) (by show S1 < S1 + 2; omega)).trans E0.out
              have e1 := (hby.cell (p := ⟨S1, 1, none⟩) (by show S1 < S1 + 2; omega)).trans E1.out
              cases j with
              | zero =>
                obtain rfl : t = -1 := by omega
                have bx : (x == 0) = true := by have h := HS1.out.1; simp [kz] at h; simp [← h]
                have by' : (y == 0) = true := by have h := HS1.out.2; simp [kz] at h; simp [← h]
                clear ht
                go_wp2_with (first
                  | (refine wpList_load_wanted (by rfl) 33 (.tmp 7) rfl ⟨B, 0, none⟩ rfl (.agg CS) (by exact LDB.out _ (by repeat (first | exact hby | refine Below.drew ?_ | refine Below.alloc ?_ (by simp; omega) _ | refine Below.setCell ?_ (by show S1 + 2 ≤ Qb; omega) _))) ?_)
                  | (refine wpList_load_wanted (by rfl) 33 (.tmp 10) rfl ⟨B2, 0, none⟩ rfl (.agg CS) (by exact LDB2.out _ (by repeat (first | exact hby | refine Below.drew ?_ | refine Below.alloc ?_ (by simp; omega) _ | refine Below.setCell ?_ (by show S1 + 2 ≤ Qb; omega) _))) ?_))
                go_ret
                refine ⟨rfl, ?_⟩
                rw [HB.out]
                exact hbw3.trans (Below.mono (B := S1 + 2) (by repeat (first | exact hby | refine Below.drew ?_ | refine Below.alloc ?_ (by simp; omega) _ | refine Below.setCell ?_ (by show S1 + 2 ≤ Qb; omega) _)) (by omega))
              | succ j =>
                obtain rfl : t = (j : Int) := by omega
                have hlt : j < i := by omega
                clear ht
                have hb0 := (C0.out j (by omega)).1
                have gz := ((hby.cell (p := ⟨b0, o0 + j, none⟩) (by show b0 < S1 + 2; have := HB.out; omega)).trans (hbw3.cell (p := ⟨b0, o0 + j, none⟩) (by show b0 < B; have := HB.out; omega))).trans (C0.out j (by omega)).2.1
                have ix := (C0.out j (by omega)).2.2
                have sx1 : S1 + 1 < wr.heap.size := by omega
                have sx0 : b0 < wr.heap.size := by have := HB.out; omega
                have g0 := (hby.cell (p := ⟨S1 + 1, 0, none⟩) (by show S1 + 1 < S1 + 2; omega)).trans Q0.out
                have g1 := (hby.cell (p := ⟨S1 + 1, 1, none⟩) (by show S1 + 1 < S1 + 2; omega)).trans Q1.out
                have bz := Z0.out j hlt
                have KS : Hid (∀ z, zs.getD j 0 = z → pc z = (8, c) → x = ((j % 9 : Nat) : Int) + 1 ∧ y = ((j / 9 : Nat) : Int) + 1) := by
                  intro z h1 h2; have h := HS1.out; rw [kz, h1, if_pos h2] at h; exact ⟨h.1.symm, h.2.symm⟩
                have KN : Hid (∀ z, zs.getD j 0 = z → ¬ pc z = (8, c) → (kz zs c j).1 = x ∧ (kz zs c j).2.1 = y) := by
                  intro z h1 h2; have h := HS1.out; rw [kz, h1, if_neg h2] at h; exact h
                obtain ⟨z, hz⟩ : ∃ z, zs.getD j 0 = z := ⟨_, rfl⟩
                rw [hz] at gz bz
                have HZ : Hid (zs.getD j 0 = z) := hz
                clear hz
                obtain ⟨bz1, bz2⟩ := bz
                obtain ⟨p1, p2, hp⟩ : ∃ p1 p2, pc z = (p1, p2) := ⟨_, _, rfl⟩
                have PCC : Hid (∀ W, Calls Yba.prog 5 #[.int .u8 z] W fun e w' => e = .returned (.agg #[.int .i8 p1, .int .i8 p2]) ∧ w' = W.alloc (.cells #[.int .i8 p1, .int .i8 p2] 27)) := by
                  intro W
                  have := piece_any z W bz1 bz2
                  rw [hp] at this
                  exact this
                have HPC : Hid (pc z = (p1, p2)) := hp
                clear hp
                by_cases t1 : p1 = 8
                · by_cases t2 : p2 = c
                  · have v1 : (p1 == 8) = true := by simp [t1]
                    have v2 : (p2 == c) = true := by simp [t2]
                    have HX := KS.out z HZ.out (by rw [HPC.out, t1, t2])
                    obtain ⟨q, hq⟩ : ∃ q, j / 9 = q := ⟨_, rfl⟩
                    obtain ⟨r, hr⟩ : ∃ r, j % 9 = r := ⟨_, rfl⟩
                    rw [hq, hr] at HX
                    have eQ : (j : Int) / 9 = (q : Int) := by omega
                    have eR : (j : Int) % 9 = (r : Int) := by omega
                    have hq9 : (q : Int) < 9 := by omega
                    have hr9 : (r : Int) < 9 := by omega
                    have bx : (x == (r : Int) + 1) = true := by simp [HX.1]
                    have by' : (y == (q : Int) + 1) = true := by simp [HX.2]
                    clear t1 t2 KS KN HX hq hr
                    go_wp2
                    go_region_with (go_at_call 5; refine (PCC.out _).mono ?_; rintro e w' ⟨rfl, rfl⟩)
                    all_goals
                      go_wp2_with (first
                        | (refine wpList_load_wanted (by rfl) 33 (.tmp 7) rfl ⟨B, 0, none⟩ rfl (.agg CS) (by exact LDB.out _ (by repeat (first | exact hby | refine Below.drew ?_ | refine Below.alloc ?_ (by simp; omega) _ | refine Below.setCell ?_ (by show S1 + 2 ≤ Qb; omega) _))) ?_)
                        | (refine wpList_load_wanted (by rfl) 33 (.tmp 10) rfl ⟨B2, 0, none⟩ rfl (.agg CS) (by exact LDB2.out _ (by repeat (first | exact hby | refine Below.drew ?_ | refine Below.alloc ?_ (by simp; omega) _ | refine Below.setCell ?_ (by show S1 + 2 ≤ Qb; omega) _))) ?_))
                      go_ret
                      refine ⟨rfl, ?_⟩
                      rw [HB.out]
                      exact hbw3.trans (Below.mono (B := S1 + 2) (by repeat (first | exact hby | refine Below.drew ?_ | refine Below.alloc ?_ (by simp; omega) _ | refine Below.setCell ?_ (by show S1 + 2 ≤ Qb; omega) _)) (by omega))
                  · have v1 : (p1 == 8) = true := by simp [t1]
                    have v2 : (p2 == c) = false := by simp [t2]
                    have HS2 : Hid ((kz zs c j).1 = x ∧ (kz zs c j).2.1 = y) := KN.out z HZ.out (by rw [HPC.out]; simp [t2])
                    clear t1 t2 KS KN
                    go_wp2
                    go_region_with (go_at_call 5; refine (PCC.out _).mono ?_; rintro e w' ⟨rfl, rfl⟩)
                    all_goals
                      go_wp2
                      go_roundw
                      case rel => exact ⟨j, _, rfl, by omega, rfl, HS2, (hbv.alloc sq _).drew⟩
                      case measure => simp [intOf]
                · have v1 : (p1 == 8) = false := by simp [t1]
                  have HS2 : Hid ((kz zs c j).1 = x ∧ (kz zs c j).2.1 = y) := KN.out z HZ.out (by rw [HPC.out]; simp [t1])
                  clear t1 KS KN
                  go_wp2
                  go_region_with (go_at_call 5; refine (PCC.out _).mono ?_; rintro e w' ⟨rfl, rfl⟩)
                  all_goals
                    go_wp2
                    go_roundw
                    case rel => exact ⟨j, _, rfl, by omega, rfl, HS2, (hbv.alloc sq _).drew⟩
                    case measure => simp [intOf]
end Go.Proofs.Ybulkbyzy
