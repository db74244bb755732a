import Derived.Test.YbulkbyywWait
namespace Go.Proofs.Ybulkbyyw
open Go.RowKit

set_option maxHeartbeats 4000000 in
set_option maxRecDepth 100000 in
theorem law_hit_wait (a0 : Option Addr) (k c c0 b0 o0 H g : Nat) (sel pv : Int) (sa : Nat → Option Addr) (sl sc bb oo : Nat → Nat) (fi ni : Nat → Int) (xi : Nat → Nat → Int) (F N : Nat → Int) (X : Nat → Nat → Int) (w : World) (hk : k ≤ 300) (hsel : 0 ≤ sel ∧ sel ≤ 255) (hc : sel % 8 + 1 = (c : Int)) (hg : g ≤ 255) (hH : w.heap.size = H)
    (hin : Inp w a0 k c0 b0 o0 sa sl sc bb oo fi ni xi) (hF : ∀ i, i < k → F i = fi i % (c : Int)) (hN : ∀ i, i < k → N i = ni i % ((c : Int) + 1)) (hX : ∀ i j, i < k → j < c → X i j = if j < sl i then xi i j else (i : Int) * 100 + (j : Int) + 1)
    (i0 a f f2 : Nat) (n : Int) (hpos : 0 < hsum N k) (hi0 : i0 < k) (hno : ∀ i, i < i0 → N ((g + i) % k) = 0) (ea0 : (g + i0) % k = a) (hFa : F a = (f : Int)) (hf : f < c) (hNa : N a = n) (hn : 0 < n) (hn8 : n ≤ 8) (hf2 : (f + 1) % c = f2) (f3 n1 : Nat) (hn1 : n - 1 = (n1 : Int)) (hn1c : n1 < c) (hf3 : (f2 + n1) % c = f3) :
    Calls Yba.prog 3 #[.slice a0 k c0, .int .u8 sel, .int .u8 (g : Int), .bool true, .int .i64 pv] w fun e w' => e = .returned (.bool true) ∧ Below H w w' := by
  obtain ⟨sel0, sel1⟩ := hsel
  have hc8 : c ≤ 8 := by omega
  have hc1 : 1 ≤ c := by omega
  have bN : ∀ i, i < k → 0 ≤ N i ∧ N i ≤ 8 := by
    intro i hi
    have b1 := Int.emod_nonneg (ni i) (show (c : Int) + 1 ≠ 0 by omega)
    have b2 := Int.emod_lt_of_pos (ni i) (show 0 < (c : Int) + 1 by omega)
    rw [hN i hi]; omega
  have hbd := hsum_bd N k bN k (Nat.le_refl _)
  have CB := build_any a0 k c c0 b0 o0 H sa sl sc bb oo fi ni xi F N X w hk hc8 hc1 hH hin hF hN hX
  obtain ⟨hd, hhd⟩ : ∃ hd, hsum N k = hd := ⟨_, rfl⟩
  rw [hhd] at CB hbd hpos
  obtain ⟨hd0, hd1⟩ := hbd
  have HCB : Hid (Calls Yba.prog 5 #[.slice a0 k c0, .int .i64 (c : Int)] w fun e w' =>
      e = .returned (.tuple #[.pointer (some ⟨H, 0, none⟩), .slice (some ⟨H + 2, 0, none⟩) k k, .slice (some ⟨H + 3, 0, none⟩) k k, .slice (some ⟨H + 4, 0, none⟩) k k, .int .i64 hd]) ∧ St H k c (Bf H k c) F N X F N X w' ∧ Below H w w') := CB
  have NO : Hid (∀ i, i < i0 → N ((g + i) % k) = 0) := hno
  have EA : Hid ((g + i0) % k = a) := ea0
  have FA : Hid (F a = (f : Int)) := hFa
  have NA : Hid (N a = n) := hNa
  have F2 : Hid ((f + 1) % c = f2) := hf2
  have F3 : Hid ((f2 + n1) % c = f3) := hf3
  have N1 : Hid (n - 1 = (n1 : Int)) := hn1
  have hf2c : f2 < c := by rw [← hf2]; exact Nat.mod_lt _ (by omega)
  have hf3c : f3 < c := by rw [← hf3]; exact Nat.mod_lt _ (by omega)
  have e4 : ((f2 : Int) + n - 1) % (c : Int) = (f3 : Int) := by rw [← hf3, show (f2 : Int) + n - 1 = ((f2 + n1 : Nat) : Int) from by omega]; rfl
  have hak : a < k := by rw [← ea0]; exact Nat.mod_lt _ (by omega)
  have hlen : decide ((300 : Int) < (k : Int)) = false := decide_eq_false (by omega)
  clear CB bN hin hF hN hX hno hhd ea0 hFa hNa hf2 hf3 hn1
  go_enter Yba.func3, Yba.ntmps3
  go_wp2_with fail
  refine Calls.mono HCB.out ?_
  rintro e w1 ⟨rfl, hs1, hb1⟩
  have S1 : Hid (St H k c (updB (updB (Bf H k c) 9 (.int .i64 hd)) 11 (.int .i64 (g : Int))) F N X F N X ((w1.setCell ⟨H, 9, none⟩ (.int .i64 hd)).setCell ⟨H, 11, none⟩ (.int .i64 (g : Int)))) := (hs1.setBuf 9 (by omega) _).setBuf 11 (by omega) _
  have hb2 : Below H w ((w1.setCell ⟨H, 9, none⟩ (.int .i64 hd)).setCell ⟨H, 11, none⟩ (.int .i64 (g : Int))) := (hb1.setCell (Nat.le_refl _) _).setCell (Nat.le_refl _) _
  have c9 : w1.cell? ⟨H, 9, none⟩ = some (.int .i64 0) := hs1.buf 9 (by omega)
  have c11 : w1.cell? ⟨H, 11, none⟩ = some (.int .i64 0) := hs1.buf 11 (by omega)
  have z9 := hs1.free H 9 (by omega) (by omega)
  have z11 := hs1.free H 11 (by omega) (by omega)
  clear hs1 hb1 HCB
  obtain ⟨w2, hw2⟩ : ∃ w2, (w1.setCell ⟨H, 9, none⟩ (.int .i64 hd)).setCell ⟨H, 11, none⟩ (.int .i64 (g : Int)) = w2 := ⟨_, rfl⟩
  have S2 : Hid (St H k c (updB (updB (Bf H k c) 9 (.int .i64 hd)) 11 (.int .i64 (g : Int))) F N X F N X w2) := by rw [← hw2]; exact S1.out
  have hb3 : Below H w w2 := by rw [← hw2]; exact hb2
  clear S1 hb2
  have hmc := mkchan
  go_upto_region 11 with (fail)
  obtain ⟨C, hC⟩ : ∃ C, w2.heap.size = C := ⟨_, rfl⟩
  obtain ⟨wp, hwp⟩ : ∃ wp, (w2.alloc (Obj.chan 0 #[] false 0 0 false)).alloc (Obj.cells #[Value.pointer none, Value.pointer none, Value.pointer none, Value.bool false, Value.chan (some C), Value.int IntKind.i64 pv, Value.nilIface] 53) = wp := ⟨_, rfl⟩
  have hHC : H + 5 + 3 * k ≤ C := by rw [← hC]; exact S2.out.size
  have Wp : Wait (C + 1) C (.pointer none) false pv wp := by
    have hn : wp.heap[C + 1]? = some (.cells #[Value.pointer none, Value.pointer none, Value.pointer none, Value.bool false, Value.chan (some C), Value.int IntKind.i64 pv, Value.nilIface] 53 (0, 0)) := by rw [← hwp, ← hC]; exact heap_alloc2_new _ _ _
    refine ⟨?_, ?_, ?_, ?_, ?_, ?_, fun o => frozen_of_row _ _ _ _ _ hn, (Array.getElem?_eq_some_iff.1 hn).1⟩ <;> (rw [cell_of_row _ _ _ _ _ _ hn]; rfl)
  have Cp : wp.heap[C]? = some (.chan 0 #[] false 0 0 false) := by rw [← hwp, ← hC]; exact heap_alloc2_old _ _ _
  have Sp : St H k c (updB (updB (Bf H k c) 9 (.int .i64 hd)) 11 (.int .i64 (g : Int))) F N X F N X wp := by rw [← hwp]; exact (S2.out.alloc _).alloc _
  have hbp : Below H w wp := by rw [← hwp]; exact (hb3.alloc (by omega) _).alloc (by simp; omega) _
  have HPU : Hid (∀ q, Calls Yba.prog 6 #[.pointer (some ⟨H, 13, none⟩), .pointer (some ⟨C + 1, 0, none⟩), .pointer (some ⟨C + 1, 0, none⟩)] (wp.drewN q) fun e w' => e = .returned (.tuple #[]) ∧ St H k c (updB (updB (updB (updB (updB (Bf H k c) 9 (.int .i64 hd)) 11 (.int .i64 (g : Int))) 13 (.pointer (some ⟨C + 1, 0, none⟩))) 14 (.pointer (some ⟨C + 1, 0, none⟩))) 15 (.int .i64 1)) F N X F N X w' ∧ Wait (C + 1) C (.pointer (some ⟨C + 1, 0, none⟩)) true pv w' ∧ Out (fun b => Mine H k b ∨ b = C + 1) wp w') := by
    intro q
    exact (lpush_st (Sp.drewN q) (C + 1) C pv (by omega) (by rw [updB_other _ _ _ _ (by omega), updB_other _ _ _ _ (by omega)]; rfl) (by rw [updB_other _ _ _ _ (by omega), updB_other _ _ _ _ (by omega)]; rfl) (by rw [updB_other _ _ _ _ (by omega), updB_other _ _ _ _ (by omega)]; rfl) (Wp.out ((Out.refl (fun _ => False) _).drewN q) (fun e => e))).mono (fun e w' ⟨h1, h2, h3, h4⟩ => ⟨h1, h2, h3, ((Out.refl _ _).drewN q).trans h4⟩)
  have HCp : Hid (wp.heap[C]? = some (.chan 0 #[] false 0 0 false)) := Cp
  have hCs : C < wp.heap.size := (Array.getElem?_eq_some_iff.1 Cp).1
  rw [hC, hwp]
  clear hwp hC Wp Cp Sp S2 hb3 hmc hw2 c9 c11 z9 z11
  go_region_with (go_at_call 6; refine (HPU.out _).mono ?_; rintro e w3 ⟨rfl, hs3, hw3, ho3⟩)
  have S3 : Hid (St H k c (updB (updB (updB (updB (updB (Bf H k c) 9 (.int .i64 hd)) 11 (.int .i64 (g : Int))) 13 (.pointer (some ⟨C + 1, 0, none⟩))) 14 (.pointer (some ⟨C + 1, 0, none⟩))) 15 (.int .i64 1)) F N X F N X w3) := hs3
  have W3 : Hid (Wait (C + 1) C (.pointer (some ⟨C + 1, 0, none⟩)) true pv w3) := hw3
  have C3 : Hid (w3.heap[C]? = some (.chan 0 #[] false 0 0 false)) := (ho3.block C hCs (fun e => by rcases e with e | e; have := e.2; omega; omega)).trans HCp.out
  have hb4 : Below H w w3 := hbp.trans (ho3.below (by omega) (fun b hb => by rcases hb with hb | hb; exact hb.1; omega))
  clear hs3 hw3 ho3 HPU HCp hbp hCs
  go_wp2_with fail
  refine (get_wait S3.out hd g i0 a f f2 n hk hg rfl rfl hpos rfl rfl hi0 NO.out EA.out hf hc8 FA.out NA.out hn hn8 F2.out (C + 1) C f3 n1 pv (by omega) hHC (by omega) rfl rfl rfl W3.out C3.out N1.out hn1c hf2c F3.out).mono ?_
  rintro e w4 ⟨rfl, hs4, hw4, ho4⟩
  have hb5 : Below H w w4 := hb4.trans (ho4.below (by have := S3.out.size; omega) (fun b hb => by rcases hb with hb | hb | hb; exact hb.1; omega; omega))
  have HSZ : H + 5 + 3 * k ≤ w4.heap.size := hs4.size
  have W4 : Hid (Wait (C + 1) C (.pointer (some ⟨C + 1, 0, none⟩)) false pv w4) := hw4
  obtain ⟨B4, hB4⟩ : ∃ B4, (updB (updB (updB (updB (updB (updB (updB (updB (updB (updB (Bf H k c) 9 (.int .i64 hd)) 11 (.int .i64 (g : Int))) 13 (.pointer (some ⟨C + 1, 0, none⟩))) 14 (.pointer (some ⟨C + 1, 0, none⟩))) 15 (.int .i64 1)) 11 (.int .i64 (a : Int))) 5 (.int .u64 1)) 13 (.pointer none)) 14 (.pointer none)) 15 (.int .i64 0)) = B4 := ⟨_, rfl⟩
  have p5 : B4 5 = .int .u64 1 := by rw [← hB4]; rfl
  have p8 : B4 8 = .slice (some ⟨H + 1, 0, none⟩) k k := by rw [← hB4]; rfl
  have p9 : B4 9 = .int .i64 hd := by rw [← hB4]; rfl
  have p10 : B4 10 = .int .i64 0 := by rw [← hB4]; rfl
  have p11 : B4 11 = .int .i64 (a : Int) := by rw [← hB4]; rfl
  have p15 : B4 15 = .int .i64 0 := by rw [← hB4]; rfl
  rw [hB4] at hs4
  have S4 : Hid (St H k c B4 (updI F a (f2 : Int)) N (updX (updX X a f 0) a f3 pv) F N X w4) := hs4.congr (fun _ _ => rfl) (fun _ _ => rfl) (fun i hi => by
    by_cases e : i = a
    · rw [e, updI_same, NA.out]; have := N1.out; omega
    · rw [updI_other _ _ _ _ e, updI_other _ _ _ _ e]) (fun _ _ _ _ => rfl) (fun _ _ => rfl) (fun _ _ => rfl) (fun _ _ _ _ => rfl)
  have k10 := hs4.buf 10 (by omega)
  rw [p10] at k10
  have haki : (a : Int) < (k : Int) := by omega
  have hfc : (f : Int) < (c : Int) := by omega
  have hf3ci : (f3 : Int) < (c : Int) := by omega
  have hcz : ((c : Int) == 0) = false := by simp; omega
  have hkz : ((k : Int) == 0) = false := by simp; omega
  have v0 := hs4.vr a hak
  have v1 := hs4.fr a hak
  have v2 := hs4.nr a hak
  have v3 := hs4.mv a f hak hf
  rw [FA.out] at v1
  rw [NA.out] at v2
  have y1 := hs4.free (H + 3) a (by omega) (by omega)
  have y3 := hs4.free (H + 6 + 3 * a) f (by omega) (by omega)
  have e1 : ((f : Int) + 1) % (c : Int) = (f2 : Int) := by rw [← F2.out]; simp
  obtain ⟨x, hx⟩ : ∃ x, X a f = x := ⟨_, rfl⟩
  rw [hx] at v3 ⊢
  have P5 : Hid (B4 5 = .int .u64 1) := p5
  have P8 : Hid (B4 8 = .slice (some ⟨H + 1, 0, none⟩) k k) := p8
  have P9 : Hid (B4 9 = .int .i64 hd) := p9
  have P11 : Hid (B4 11 = .int .i64 (a : Int)) := p11
  have P15 : Hid (B4 15 = .int .i64 0) := p15
  clear hs4 ho4 hw4 S3 W3 C3 hb4 hx hB4 p5 p8 p9 p10 p11 p15
  have hdz : decide ((0 : Int) < hd) = true := decide_eq_true hpos
  go_wp2
  go_loop [21, 22, 23] (fun t21 t22 _ => ∃ i : Nat, i ≤ i0 ∧ t22 = .int .i64 (i : Int) ∧ t21 = .int .i64 (-1)) (fun _ t22 _ => k - (intOf t22).toNat)
  case atStart => exact ⟨0, Nat.zero_le _, rfl, rfl⟩
  case round =>
    obtain ⟨i, hi, rfl, rfl⟩ := hrel
    have hlti : (i : Int) < (k : Int) := by omega
    by_cases hlt : i < i0
    · obtain ⟨b, eb⟩ : ∃ b, (g + i) % k = b := ⟨_, rfl⟩
      have hbk : b < k := by rw [← eb]; exact Nat.mod_lt _ (by omega)
      have hbki : (b : Int) < (k : Int) := by omega
      have e3 : ((g : Int) + (i : Int)) % (k : Int) = (b : Int) := by rw [← eb]; simp
      have g2 := S4.out.nr b hbk
      rw [← eb, NO.out i hlt, eb] at g2
      clear eb e1
      go_wp2
      go_round
      case rel => exact ⟨i + 1, by omega, by go_num, rfl⟩
      case measure => simp [intOf]; omega
    · obtain rfl : i = i0 := by omega
      have e3 : ((g : Int) + (i : Int)) % (k : Int) = (a : Int) := by rw [← EA.out]; simp
      go_wp2
      go_quiet (fail)
      go_wp2
      go_region
      go_upto_region 36 with (fail)
      obtain ⟨w5, hw5⟩ : ∃ w5, ((w4.drewN (nq + 1)).setCell ⟨H + 6 + 3 * a, f, none⟩ (.int .i64 0)).setCell ⟨H + 3, a, none⟩ (.int .i64 (f2 : Int)) = w5 := ⟨_, rfl⟩
      have S5 : Hid (St H k c B4 (updI F a (f2 : Int)) N (updX (updX X a f 0) a f3 pv) (updI F a (f2 : Int)) N (updX X a f 0) w5) := by
        rw [← hw5]; exact ((S4.out.drewN (nq + 1)).setMv a f hak hf 0).setFr a hak (f2 : Int)
      have hb6 : Below H w w5 := by
        rw [← hw5]; exact ((belN hb5 (nq + 1)).setCell (by show H ≤ H + 6 + 3 * a; omega) _).setCell (by show H ≤ H + 3; omega) _
      have O5 : Out (Mine H k) w4 w5 := by
        rw [← hw5]; exact (((Out.refl _ _).drewN (nq + 1)).set _ _ _ ⟨by omega, by omega⟩).set _ _ _ ⟨by omega, by omega⟩
      rw [hw5]
      have u0 := S5.out.vr a hak
      have u1 := S5.out.fr a hak
      have u2 := S5.out.nr a hak
      have u3 := S5.out.mv a f3 hak hf3c
      have u4 := S5.out.free (H + 6 + 3 * a) f3 (by omega) (by omega)
      rw [updI_same] at u1
      rw [NA.out] at u2
      have e5 : ((f2 : Int) + n - 1).tmod (c : Int) = (f3 : Int) := by rw [Int.tmod_eq_emod_of_nonneg (by omega)]; exact e4
      have W5 : Hid (Wait (C + 1) C (.pointer (some ⟨C + 1, 0, none⟩)) false pv w5) := W4.out.out O5 (fun e => by have := e.2; omega)
      clear hw5 v0 v1 v2 v3 y1 y3 e1 e3 O5 hb5 k10 W4 S4
      go_region
      go_upto_region 39 with (fail)
      obtain ⟨w6, hw6⟩ : ∃ w6, (w5.setCell ⟨H + 6 + 3 * a, f3, none⟩ (.int .i64 pv)).drew = w6 := ⟨_, rfl⟩
      have S6 : Hid (St H k c B4 (updI F a (f2 : Int)) N (updX (updX X a f 0) a f3 pv) (updI F a (f2 : Int)) N (updX (updX X a f 0) a f3 pv) w6) := by
        rw [← hw6]; exact (S5.out.setMv a f3 hak hf3c pv).drewN 1
      have hb7 : Below H w w6 := by
        rw [← hw6]; exact (hb6.setCell (by show H ≤ H + 6 + 3 * a; omega) _).drew
      have O6 : Out (Mine H k) w5 w6 := by
        rw [← hw6]; exact ((Out.refl _ _).set _ _ _ ⟨by omega, by omega⟩).drewN 1
      have W6 : Wait (C + 1) C (.pointer (some ⟨C + 1, 0, none⟩)) false pv w6 := W5.out.out O6 (fun e => by have := e.2; omega)
      have kq := W6.c3
      have l5 := S6.out.buf 5 (by omega)
      have l9 := S6.out.buf 9 (by omega)
      have l11 := S6.out.buf 11 (by omega)
      have l15 := S6.out.buf 15 (by omega)
      rw [P5.out] at l5
      rw [P9.out] at l9
      rw [P11.out] at l11
      rw [P15.out] at l15
      rw [hw6]
      clear hw6 u0 u1 u2 u3 u4 e4 e5 S5 hb6 O6 W6 W5
      go_wp2_with fail
      refine (load_any H 5 1 w6 l5).mono ?_
      rintro e w7 ⟨rfl, rfl⟩
      go_wp2_with fail
      refine (same_any H k c _ _ _ _ w7 S6.out hk hc8 P8.out).mono ?_
      rintro e w8 ⟨rfl, q2, rfl⟩
      go_wp2
      go_ret
      exact ⟨rfl, belN hb7 _⟩
end Go.Proofs.Ybulkbyyw
