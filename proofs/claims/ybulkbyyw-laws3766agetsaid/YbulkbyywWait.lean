import Derived.Test.YbulkbyywHit
namespace Go.Proofs.Ybulkbyyw
open Go.RowKit

theorem mkchan (W : World) : (Instr.makeChan 47 (.int .i64 0)).run Yba.prog W = .ok (.chan (some W.heap.size)) (W.alloc (.chan 0 #[] false 0 0 false)) := by kernel_rfl

theorem lpush_st {H k c : Nat} {B : Nat → Value} {F N : Nat → Int} {X : Nat → Nat → Int} {F' N' : Nat → Int} {X' : Nat → Nat → Int} {w : World} (h : St H k c B F N X F' N' X' w) (W C : Nat) (v : Int) (hW : H + 5 + 3 * k ≤ W) (b0 : B 13 = .pointer none) (b1 : B 14 = .pointer none) (b2 : B 15 = .int .i64 0) (hw : Wait W C (.pointer none) false v w) :
    Calls Yba.prog 6 #[.pointer (some ⟨H, 13, none⟩), .pointer (some ⟨W, 0, none⟩), .pointer (some ⟨W, 0, none⟩)] w fun e w' => e = .returned (.tuple #[]) ∧ St H k c (updB (updB (updB B 13 (.pointer (some ⟨W, 0, none⟩))) 14 (.pointer (some ⟨W, 0, none⟩))) 15 (.int .i64 1)) F N X F' N' X' w' ∧ Wait W C (.pointer (some ⟨W, 0, none⟩)) true v w' ∧ Out (fun b => Mine H k b ∨ b = W) w w' := by
  refine (lpush H W _ _ _ _ w (by omega) (by rw [← b0]; exact h.buf 13 (by omega)) (by rw [← b1]; exact h.buf 14 (by omega)) (by rw [← b2]; exact h.buf 15 (by omega)) hw.c0 hw.c1 hw.c2 hw.c3 (fun o => h.free _ _ (by omega) (by omega)) hw.fz).mono ?_
  rintro e w' ⟨rfl, rfl⟩
  refine ⟨rfl, ?_, ?_, ?_⟩
  · exact ((((((h.setOut W 0 hW _).setOut W 1 hW _).setOut W 2 hW _).setOut W 3 hW _).setBuf 13 (by omega) _).setBuf 14 (by omega) _).setBuf 15 (by omega) _
  · refine ⟨?_, ?_, ?_, ?_, ?_, ?_, fun o => ?_, ?_⟩
    · rw [cell_ne (by omega), cell_ne (by omega), cell_ne (by omega), cell_ne (by omega), cell_ne (by omega), cell_ne (by omega)]; exact World.cell?_setCell_same _ _ _ hw.c0
    · rw [cell_ne (by omega), cell_ne (by omega), cell_ne (by omega), cell_ne (by omega), cell_ne (by omega)]; exact World.cell?_setCell_same _ _ _ ((cell_ne (by omega)).trans hw.c1)
    · rw [cell_ne (by omega), cell_ne (by omega), cell_ne (by omega), cell_ne (by omega)]; exact World.cell?_setCell_same _ _ _ ((cell_ne (by omega)).trans ((cell_ne (by omega)).trans hw.c2))
    · rw [cell_ne (by omega), cell_ne (by omega), cell_ne (by omega)]; exact World.cell?_setCell_same _ _ _ ((cell_ne (by omega)).trans ((cell_ne (by omega)).trans ((cell_ne (by omega)).trans hw.c3)))
    · rw [cell_ne (by omega), cell_ne (by omega), cell_ne (by omega), cell_ne (by omega), cell_ne (by omega), cell_ne (by omega), cell_ne (by omega)]; exact hw.c4
    · rw [cell_ne (by omega), cell_ne (by omega), cell_ne (by omega), cell_ne (by omega), cell_ne (by omega), cell_ne (by omega), cell_ne (by omega)]; exact hw.c5
    · simp only [World.frozen?_setCell]; exact hw.fz o
    · have := hw.lt; simpa using this
  · refine (((((((Out.refl _ _).set _ _ _ ?_).set _ _ _ ?_).set _ _ _ ?_).set _ _ _ ?_).set _ _ _ ?_).set _ _ _ ?_).set _ _ _ ?_
    · exact .inr rfl
    · exact .inr rfl
    · exact .inr rfl
    · exact .inr rfl
    · exact .inl ⟨by omega, by omega⟩
    · exact .inl ⟨by omega, by omega⟩
    · exact .inl ⟨by omega, by omega⟩

set_option maxHeartbeats 4000000 in
set_option maxRecDepth 100000 in
theorem law_miss_wait (a0 : Option Addr) (k c c0 b0 o0 H g : Nat) (sel pv : Int) (sa : Nat → Option Addr) (sl sc bb oo : Nat → Nat) (fi ni : Nat → Int) (xi : Nat → Nat → Int) (F N : Nat → Int) (X : Nat → Nat → Int) (w : World) (hk : k ≤ 300) (hsel : 0 ≤ sel ∧ sel ≤ 255) (hc : sel % 8 + 1 = (c : Int)) (hg : g ≤ 255) (hH : w.heap.size = H)
    (hin : Inp w a0 k c0 b0 o0 sa sl sc bb oo fi ni xi) (hF : ∀ i, i < k → F i = fi i % (c : Int)) (hN : ∀ i, i < k → N i = ni i % ((c : Int) + 1)) (hX : ∀ i j, i < k → j < c → X i j = if j < sl i then xi i j else (i : Int) * 100 + (j : Int) + 1)
    (hno : hsum N k ≤ 0 ∨ ∀ i, i < k → N ((g + i) % k) = 0) :
    Calls Yba.prog 3 #[.slice a0 k c0, .int .u8 sel, .int .u8 (g : Int), .bool true, .int .i64 pv] w fun e w' => e = .returned (.bool true) ∧ Below H w w' := by
  obtain ⟨sel0, sel1⟩ := hsel
  have hc8 : c ≤ 8 := by omega
  have hc1 : 1 ≤ c := by omega
  have bN : ∀ i, i < k → 0 ≤ N i ∧ N i ≤ 8 := by
    intro i hi
    have b1 := Int.emod_nonneg (ni i) (show (c : Int) + 1 ≠ 0 by omega)
    have b2 := Int.emod_lt_of_pos (ni i) (show 0 < (c : Int) + 1 by omega)
    rw [hN i hi]; omega
  have hbd := hsum_bd N k bN k (Nat.le_refl _)
  have CB := build_any a0 k c c0 b0 o0 H sa sl sc bb oo fi ni xi F N X w hk hc8 hc1 hH hin hF hN hX
  obtain ⟨hd, hhd⟩ : ∃ hd, hsum N k = hd := ⟨_, rfl⟩
  rw [hhd] at CB hbd hno
  obtain ⟨hd0, hd1⟩ := hbd
  have HCB : Hid (Calls Yba.prog 5 #[.slice a0 k c0, .int .i64 (c : Int)] w fun e w' =>
      e = .returned (.tuple #[.pointer (some ⟨H, 0, none⟩), .slice (some ⟨H + 2, 0, none⟩) k k, .slice (some ⟨H + 3, 0, none⟩) k k, .slice (some ⟨H + 4, 0, none⟩) k k, .int .i64 hd]) ∧ St H k c (Bf H k c) F N X F N X w' ∧ Below H w w') := CB
  have NO : Hid (hd ≤ 0 ∨ ∀ i, i < k → N ((g + i) % k) = 0) := hno
  have hlen : decide ((300 : Int) < (k : Int)) = false := decide_eq_false (by omega)
  clear CB bN hin hF hN hX hno hhd
  go_enter Yba.func3, Yba.ntmps3
  go_wp2_with fail
  refine Calls.mono HCB.out ?_
  rintro e w1 ⟨rfl, hs1, hb1⟩
  have S1 : Hid (St H k c (updB (updB (Bf H k c) 9 (.int .i64 hd)) 11 (.int .i64 (g : Int))) F N X F N X ((w1.setCell ⟨H, 9, none⟩ (.int .i64 hd)).setCell ⟨H, 11, none⟩ (.int .i64 (g : Int)))) := (hs1.setBuf 9 (by omega) _).setBuf 11 (by omega) _
  have hb2 : Below H w ((w1.setCell ⟨H, 9, none⟩ (.int .i64 hd)).setCell ⟨H, 11, none⟩ (.int .i64 (g : Int))) := (hb1.setCell (Nat.le_refl _) _).setCell (Nat.le_refl _) _
  have c9 : w1.cell? ⟨H, 9, none⟩ = some (.int .i64 0) := hs1.buf 9 (by omega)
  have c11 : w1.cell? ⟨H, 11, none⟩ = some (.int .i64 0) := hs1.buf 11 (by omega)
  have z9 := hs1.free H 9 (by omega) (by omega)
  have z11 := hs1.free H 11 (by omega) (by omega)
  clear hs1 hb1 HCB
  obtain ⟨w2, hw2⟩ : ∃ w2, (w1.setCell ⟨H, 9, none⟩ (.int .i64 hd)).setCell ⟨H, 11, none⟩ (.int .i64 (g : Int)) = w2 := ⟨_, rfl⟩
  have S2 : Hid (St H k c (updB (updB (Bf H k c) 9 (.int .i64 hd)) 11 (.int .i64 (g : Int))) F N X F N X w2) := by rw [← hw2]; exact S1.out
  have hb3 : Below H w w2 := by rw [← hw2]; exact hb2
  clear S1 hb2
  have hmc := mkchan
  go_upto_region 11 with (fail)
  obtain ⟨C, hC⟩ : ∃ C, w2.heap.size = C := ⟨_, rfl⟩
  obtain ⟨wp, hwp⟩ : ∃ wp, (w2.alloc (Obj.chan 0 #[] false 0 0 false)).alloc (Obj.cells #[Value.pointer none, Value.pointer none, Value.pointer none, Value.bool false, Value.chan (some C), Value.int IntKind.i64 pv, Value.nilIface] 53) = wp := ⟨_, rfl⟩
  have hHC : H + 5 + 3 * k ≤ C := by rw [← hC]; exact S2.out.size
  have Wp : Wait (C + 1) C (.pointer none) false pv wp := by
    have hn : wp.heap[C + 1]? = some (.cells #[Value.pointer none, Value.pointer none, Value.pointer none, Value.bool false, Value.chan (some C), Value.int IntKind.i64 pv, Value.nilIface] 53 (0, 0)) := by rw [← hwp, ← hC]; exact heap_alloc2_new _ _ _
    refine ⟨?_, ?_, ?_, ?_, ?_, ?_, fun o => frozen_of_row _ _ _ _ _ hn, (Array.getElem?_eq_some_iff.1 hn).1⟩ <;> (rw [cell_of_row _ _ _ _ _ _ hn]; rfl)
  have Cp : wp.heap[C]? = some (.chan 0 #[] false 0 0 false) := by rw [← hwp, ← hC]; exact heap_alloc2_old _ _ _
  have Sp : St H k c (updB (updB (Bf H k c) 9 (.int .i64 hd)) 11 (.int .i64 (g : Int))) F N X F N X wp := by rw [← hwp]; exact (S2.out.alloc _).alloc _
  have hbp : Below H w wp := by rw [← hwp]; exact (hb3.alloc (by omega) _).alloc (by simp; omega) _
  have HPU : Hid (∀ q, Calls Yba.prog 6 #[.pointer (some ⟨H, 13, none⟩), .pointer (some ⟨C + 1, 0, none⟩), .pointer (some ⟨C + 1, 0, none⟩)] (wp.drewN q) fun e w' => e = .returned (.tuple #[]) ∧ St H k c (updB (updB (updB (updB (updB (Bf H k c) 9 (.int .i64 hd)) 11 (.int .i64 (g : Int))) 13 (.pointer (some ⟨C + 1, 0, none⟩))) 14 (.pointer (some ⟨C + 1, 0, none⟩))) 15 (.int .i64 1)) F N X F N X w' ∧ Wait (C + 1) C (.pointer (some ⟨C + 1, 0, none⟩)) true pv w' ∧ Out (fun b => Mine H k b ∨ b = C + 1) wp w') := by
    intro q
    exact (lpush_st (Sp.drewN q) (C + 1) C pv (by omega) (by rw [updB_other _ _ _ _ (by omega), updB_other _ _ _ _ (by omega)]; rfl) (by rw [updB_other _ _ _ _ (by omega), updB_other _ _ _ _ (by omega)]; rfl) (by rw [updB_other _ _ _ _ (by omega), updB_other _ _ _ _ (by omega)]; rfl) (Wp.out ((Out.refl (fun _ => False) _).drewN q) (fun e => e))).mono (fun e w' ⟨h1, h2, h3, h4⟩ => ⟨h1, h2, h3, ((Out.refl _ _).drewN q).trans h4⟩)
  have HCp : Hid (wp.heap[C]? = some (.chan 0 #[] false 0 0 false)) := Cp
  have hCs : C < wp.heap.size := (Array.getElem?_eq_some_iff.1 Cp).1
  rw [hC, hwp]
  clear hwp hC Wp Cp Sp S2 hb3 hmc hw2 c9 c11 z9 z11
  go_region_with (go_at_call 6; refine (HPU.out _).mono ?_; rintro e w3 ⟨rfl, hs3, hw3, ho3⟩)
  have S3 : Hid (St H k c (updB (updB (updB (updB (updB (Bf H k c) 9 (.int .i64 hd)) 11 (.int .i64 (g : Int))) 13 (.pointer (some ⟨C + 1, 0, none⟩))) 14 (.pointer (some ⟨C + 1, 0, none⟩))) 15 (.int .i64 1)) F N X F N X w3) := hs3
  have W3 : Hid (Wait (C + 1) C (.pointer (some ⟨C + 1, 0, none⟩)) true pv w3) := hw3
  have C3 : Hid (w3.heap[C]? = some (.chan 0 #[] false 0 0 false)) := (ho3.block C hCs (fun e => by rcases e with e | e; have := e.2; omega; omega)).trans HCp.out
  have hb4 : Below H w w3 := hbp.trans (ho3.below (by omega) (fun b hb => by rcases hb with hb | hb; exact hb.1; omega))
  clear hs3 hw3 ho3 HPU HCp hbp hCs
  go_wp2_with fail
  refine (get_miss S3.out hd g hk hg rfl rfl rfl NO.out).mono ?_
  rintro e w4 ⟨rfl, q, rfl⟩
  have k9 : w3.cell? ⟨H, 9, none⟩ = some (.int .i64 hd) := S3.out.buf 9 (by omega)
  have k10 : w3.cell? ⟨H, 10, none⟩ = some (.int .i64 0) := S3.out.buf 10 (by omega)
  have k11 : w3.cell? ⟨H, 11, none⟩ = some (.int .i64 (g : Int)) := S3.out.buf 11 (by omega)
  have k15 : w3.cell? ⟨H, 15, none⟩ = some (.int .i64 1) := S3.out.buf 15 (by omega)
  have k5 : w3.cell? ⟨H, 5, none⟩ = some (.int .u64 0) := S3.out.buf 5 (by omega)
  have kq := W3.out.c3
  by_cases hz : hd ≤ 0
  case' pos =>
    have hdz : decide ((0 : Int) < hd) = false := decide_eq_false (by omega)
    clear NO
    go_wp2_with fail
  case' neg =>
    have hdz : decide ((0 : Int) < hd) = true := decide_eq_true (by omega)
    have NO2 : Hid (∀ i, i < k → N ((g + i) % k) = 0) := by rcases NO.out with h | h; exact absurd h hz; exact h
    clear NO
    go_wp2
    go_loop [21, 22, 23] (fun t21 t22 _ => ∃ i : Nat, i ≤ k ∧ t22 = .int .i64 (i : Int) ∧ t21 = .int .i64 (-1)) (fun _ t22 _ => k - (intOf t22).toNat)
    case atStart => exact ⟨0, Nat.zero_le _, rfl, rfl⟩
    case' round =>
      obtain ⟨i, hi, rfl, rfl⟩ := hrel
      by_cases hlt : i < k
      · have hlti : (i : Int) < (k : Int) := by omega
        obtain ⟨a, ea⟩ : ∃ a, (g + i) % k = a := ⟨_, rfl⟩
        have hak : a < k := by rw [← ea]; exact Nat.mod_lt _ (by omega)
        have haki : (a : Int) < (k : Int) := by omega
        have e1 : ((g : Int) + (i : Int)) % (k : Int) = (a : Int) := by rw [← ea]; simp
        have hkz : ((k : Int) == 0) = false := by simp; omega
        have g2 := S3.out.nr a hak
        rw [← ea, NO2.out i hlt, ea] at g2
        clear ea
        go_wp2
        go_round
        case rel => exact ⟨i + 1, by omega, by go_num, rfl⟩
        case measure => simp [intOf]; omega
      have hd2 : decide ((i : Int) < (k : Int)) = false := decide_eq_false (by omega)
      go_wp2_with fail
  all_goals
    refine (load_any H 5 0 (w3.drewN q) k5).mono ?_
    rintro e w5 ⟨rfl, rfl⟩
    go_wp2_with fail
    refine (same_any H k c _ F N X (w3.drewN q) (S3.out.drewN q) hk hc8 rfl).mono ?_
    rintro e w6 ⟨rfl, q2, rfl⟩
    go_wp2
    go_ret
    exact ⟨rfl, belN hb4 _⟩
end Go.Proofs.Ybulkbyyw
