import Derived.Test.YbulkbyywLaw
namespace Go.Proofs.Ybulkbyyw
open Go.RowKit

set_option maxHeartbeats 4000000 in
set_option maxRecDepth 100000 in
theorem law_hit_plain (a0 : Option Addr) (k c c0 b0 o0 H g : Nat) (sel pv : Int) (sa : Nat → Option Addr) (sl sc bb oo : Nat → Nat) (fi ni : Nat → Int) (xi : Nat → Nat → Int) (F N : Nat → Int) (X : Nat → Nat → Int) (w : World) (hk : k ≤ 300) (hsel : 0 ≤ sel ∧ sel ≤ 255) (hc : sel % 8 + 1 = (c : Int)) (hg : g ≤ 255) (hH : w.heap.size = H)
    (hin : Inp w a0 k c0 b0 o0 sa sl sc bb oo fi ni xi) (hF : ∀ i, i < k → F i = fi i % (c : Int)) (hN : ∀ i, i < k → N i = ni i % ((c : Int) + 1)) (hX : ∀ i j, i < k → j < c → X i j = if j < sl i then xi i j else (i : Int) * 100 + (j : Int) + 1)
    (i0 a f f2 : Nat) (n : Int) (hpos : 0 < hsum N k) (hi0 : i0 < k) (hno : ∀ i, i < i0 → N ((g + i) % k) = 0) (ea0 : (g + i0) % k = a) (hFa : F a = (f : Int)) (hf : f < c) (hNa : N a = n) (hn : 0 < n) (hn8 : n ≤ 8) (hf2 : (f + 1) % c = f2) :
    Calls Yba.prog 3 #[.slice a0 k c0, .int .u8 sel, .int .u8 (g : Int), .bool false, .int .i64 pv] w fun e w' => e = .returned (.bool true) ∧ Below H w w' := by
  obtain ⟨sel0, sel1⟩ := hsel
  have hc8 : c ≤ 8 := by omega
  have hc1 : 1 ≤ c := by omega
  have bN : ∀ i, i < k → 0 ≤ N i ∧ N i ≤ 8 := by
    intro i hi
    have b1 := Int.emod_nonneg (ni i) (show (c : Int) + 1 ≠ 0 by omega)
    have b2 := Int.emod_lt_of_pos (ni i) (show 0 < (c : Int) + 1 by omega)
    rw [hN i hi]; omega
  have hbd := hsum_bd N k bN k (Nat.le_refl _)
  have CB := build_any a0 k c c0 b0 o0 H sa sl sc bb oo fi ni xi F N X w hk hc8 hc1 hH hin hF hN hX
  obtain ⟨hd, hhd⟩ : ∃ hd, hsum N k = hd := ⟨_, rfl⟩
  rw [hhd] at CB hbd hpos
  obtain ⟨hd0, hd1⟩ := hbd
  have HCB : Hid (Calls Yba.prog 5 #[.slice a0 k c0, .int .i64 (c : Int)] w fun e w' =>
      e = .returned (.tuple #[.pointer (some ⟨H, 0, none⟩), .slice (some ⟨H + 2, 0, none⟩) k k, .slice (some ⟨H + 3, 0, none⟩) k k, .slice (some ⟨H + 4, 0, none⟩) k k, .int .i64 hd]) ∧ St H k c (Bf H k c) F N X F N X w' ∧ Below H w w') := CB
  have NO : Hid (∀ i, i < i0 → N ((g + i) % k) = 0) := hno
  have EA : Hid ((g + i0) % k = a) := ea0
  have FA : Hid (F a = (f : Int)) := hFa
  have NA : Hid (N a = n) := hNa
  have F2 : Hid ((f + 1) % c = f2) := hf2
  have hak : a < k := by rw [← ea0]; exact Nat.mod_lt _ (by omega)
  have hlen : decide ((300 : Int) < (k : Int)) = false := decide_eq_false (by omega)
  clear CB bN hin hF hN hX hno hhd ea0 hFa hNa hf2
  go_enter Yba.func3, Yba.ntmps3
  go_wp2_with fail
  refine Calls.mono HCB.out ?_
  rintro e w1 ⟨rfl, hs1, hb1⟩
  have S1 : Hid (St H k c (updB (updB (Bf H k c) 9 (.int .i64 hd)) 11 (.int .i64 (g : Int))) F N X F N X ((w1.setCell ⟨H, 9, none⟩ (.int .i64 hd)).setCell ⟨H, 11, none⟩ (.int .i64 (g : Int)))) := (hs1.setBuf 9 (by omega) _).setBuf 11 (by omega) _
  have hb2 : Below H w ((w1.setCell ⟨H, 9, none⟩ (.int .i64 hd)).setCell ⟨H, 11, none⟩ (.int .i64 (g : Int))) := (hb1.setCell (Nat.le_refl _) _).setCell (Nat.le_refl _) _
  have c9 : w1.cell? ⟨H, 9, none⟩ = some (.int .i64 0) := hs1.buf 9 (by omega)
  have c11 : w1.cell? ⟨H, 11, none⟩ = some (.int .i64 0) := hs1.buf 11 (by omega)
  have z9 := hs1.free H 9 (by omega) (by omega)
  have z11 := hs1.free H 11 (by omega) (by omega)
  clear hs1 hb1 HCB
  obtain ⟨w2, hw2⟩ : ∃ w2, (w1.setCell ⟨H, 9, none⟩ (.int .i64 hd)).setCell ⟨H, 11, none⟩ (.int .i64 (g : Int)) = w2 := ⟨_, rfl⟩
  have S2 : Hid (St H k c (updB (updB (Bf H k c) 9 (.int .i64 hd)) 11 (.int .i64 (g : Int))) F N X F N X w2) := by rw [← hw2]; exact S1.out
  have hb3 : Below H w w2 := by rw [← hw2]; exact hb2
  clear S1 hb2
  go_wp2_with fail
  refine (get_plain S2.out hd g i0 a f f2 n hk hg (by rw [updB_other _ _ _ _ (by omega), updB_other _ _ _ _ (by omega)]; rfl) (by rw [updB_other _ _ _ _ (by omega), updB_same]) hpos (by omega) (by rw [updB_same]) (by rw [updB_other _ _ _ _ (by omega), updB_other _ _ _ _ (by omega)]; rfl) hi0 NO.out EA.out hf hc8 FA.out NA.out hn hn8 F2.out (by rw [updB_other _ _ _ _ (by omega), updB_other _ _ _ _ (by omega)]; rfl)).mono ?_
  rintro e w3 ⟨rfl, hs3, ho3⟩
  have S3 : Hid (St H k c (updB (updB (updB (updB (updB (Bf H k c) 9 (.int .i64 hd)) 11 (.int .i64 (g : Int))) 11 (.int .i64 (a : Int))) 5 (.int .u64 1)) 9 (.int .i64 (hd - 1))) (updI F a (f2 : Int)) (updI N a (n - 1)) (updX X a f 0) F N X w3) := hs3
  have hb4 : Below H w w3 := hb3.trans (ho3.below (by have := S2.out.size; omega) (fun b hb => hb.1))
  have k9 : w3.cell? ⟨H, 9, none⟩ = some (.int .i64 (hd - 1)) := hs3.buf 9 (by omega)
  have k10 : w3.cell? ⟨H, 10, none⟩ = some (.int .i64 0) := hs3.buf 10 (by omega)
  have k11 : w3.cell? ⟨H, 11, none⟩ = some (.int .i64 (a : Int)) := hs3.buf 11 (by omega)
  have k15 : w3.cell? ⟨H, 15, none⟩ = some (.int .i64 0) := hs3.buf 15 (by omega)
  have haki : (a : Int) < (k : Int) := by omega
  have hfc : (f : Int) < (c : Int) := by omega
  have hcz : ((c : Int) == 0) = false := by simp; omega
  have hkz : ((k : Int) == 0) = false := by simp; omega
  have v0 := hs3.vr a hak
  have v1 := hs3.fr a hak
  have v2 := hs3.nr a hak
  have v3 := hs3.mv a f hak hf
  rw [FA.out] at v1
  rw [NA.out] at v2
  have y1 := hs3.free (H + 3) a (by omega) (by omega)
  have y2 := hs3.free (H + 4) a (by omega) (by omega)
  have y3 := hs3.free (H + 6 + 3 * a) f (by omega) (by omega)
  have e1 : ((f : Int) + 1) % (c : Int) = (f2 : Int) := by rw [← F2.out]; simp
  have e2 : ((f : Int) + 1).tmod (c : Int) = (f2 : Int) := by rw [Int.tmod_eq_emod_of_nonneg (by omega)]; exact e1
  obtain ⟨x, hx⟩ : ∃ x, X a f = x := ⟨_, rfl⟩
  rw [hx] at v3 ⊢
  clear hs3 ho3 c9 c11 z9 z11 hw2 S2 hb3 hx
  have hdz : decide ((0 : Int) < hd) = true := decide_eq_true hpos
  go_wp2
  go_loop [21, 22, 23] (fun t21 t22 _ => ∃ i : Nat, i ≤ i0 ∧ t22 = .int .i64 (i : Int) ∧ t21 = .int .i64 (-1)) (fun _ t22 _ => k - (intOf t22).toNat)
  case atStart => exact ⟨0, Nat.zero_le _, rfl, rfl⟩
  case round =>
    obtain ⟨i, hi, rfl, rfl⟩ := hrel
    have hlti : (i : Int) < (k : Int) := by omega
    by_cases hlt : i < i0
    · obtain ⟨b, eb⟩ : ∃ b, (g + i) % k = b := ⟨_, rfl⟩
      have hbk : b < k := by rw [← eb]; exact Nat.mod_lt _ (by omega)
      have hbki : (b : Int) < (k : Int) := by omega
      have e3 : ((g : Int) + (i : Int)) % (k : Int) = (b : Int) := by rw [← eb]; simp
      have g2 := S3.out.nr b hbk
      rw [← eb, NO.out i hlt, eb] at g2
      clear eb e1 e2
      go_wp2
      go_round
      case rel => exact ⟨i + 1, by omega, by go_num, rfl⟩
      case measure => simp [intOf]; omega
    · obtain rfl : i = i0 := by omega
      have e3 : ((g : Int) + (i : Int)) % (k : Int) = (a : Int) := by rw [← EA.out]; simp
      go_wp2
      go_quiet (fail)
      go_wp2
      go_region
      go_wp2_with fail
      obtain ⟨w4, hw4⟩ : ∃ w4, (((w3.drewN (nq + 1)).setCell ⟨H + 6 + 3 * a, f, none⟩ (.int .i64 0)).setCell ⟨H + 3, a, none⟩ (.int .i64 (f2 : Int))).setCell ⟨H + 4, a, none⟩ (.int .i64 (n - 1)) = w4 := ⟨_, rfl⟩
      have S4 : Hid (St H k c (updB (updB (updB (updB (updB (Bf H k c) 9 (.int .i64 hd)) 11 (.int .i64 (g : Int))) 11 (.int .i64 (a : Int))) 5 (.int .u64 1)) 9 (.int .i64 (hd - 1))) (updI F a (f2 : Int)) (updI N a (n - 1)) (updX X a f 0) (updI F a (f2 : Int)) (updI N a (n - 1)) (updX X a f 0) w4) := by
        rw [← hw4]; exact (((S3.out.drewN (nq + 1)).setMv a f hak hf 0).setFr a hak (f2 : Int)).setNr a hak (n - 1)
      have hb5 : Below H w w4 := by
        rw [← hw4]; exact (((belN hb4 (nq + 1)).setCell (by show H ≤ H + 6 + 3 * a; omega) _).setCell (by show H ≤ H + 3; omega) _).setCell (by show H ≤ H + 4; omega) _
      have l5 : w4.cell? ⟨H, 5, none⟩ = some (.int .u64 1) := S4.out.buf 5 (by omega)
      have l15 : w4.cell? ⟨H, 15, none⟩ = some (.int .i64 0) := S4.out.buf 15 (by omega)
      rw [hw4]
      clear hw4 k9 k10 k11 k15 v0 v1 v2 v3 y1 y2 y3 e1 e2 e3 S3 hb4
      refine (load_any H 5 1 w4 l5).mono ?_
      rintro e w5 ⟨rfl, rfl⟩
      go_wp2_with fail
      refine (same_any H k c _ _ _ _ w5 S4.out hk hc8 rfl).mono ?_
      rintro e w6 ⟨rfl, q2, rfl⟩
      go_wp2
      go_ret
      exact ⟨rfl, belN hb5 _⟩
end Go.Proofs.Ybulkbyyw
