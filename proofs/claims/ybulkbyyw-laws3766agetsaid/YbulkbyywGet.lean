import Derived.Test.YbulkbyywOut
import Derived.Conc.EventLaws
namespace Go.Proofs.Ybulkbyyw
open Go.RowKit

section
variable {H k c : Nat} {B : Nat → Value} {F N : Nat → Int} {X : Nat → Nat → Int} {F' N' : Nat → Int} {X' : Nat → Nat → Int} {w : World}

set_option maxHeartbeats 2000000 in
set_option maxRecDepth 100000 in
theorem get_zero (held : Int) (hc9 : w.cell? ⟨H, 9, none⟩ = some (.int .i64 held)) (hh : held ≤ 0) :
    Calls Yba.prog 7 #[.pointer (some ⟨H, 0, none⟩)] w fun e w' => e = .returned (.tuple #[.int .i64 0, .bool false]) ∧ w' = w := by
  have hd : decide ((0 : Int) < held) = false := decide_eq_false (by omega)
  go_enter Yba.func7, Yba.ntmps7
  go_wp2
  go_ret2
  exact ⟨rfl, rfl⟩

set_option maxHeartbeats 4000000 in
set_option maxRecDepth 100000 in
theorem get_none (h : St H k c B F N X F' N' X' w) (held : Int) (g : Nat) (hk : k ≤ 300) (hg : g ≤ 255) (h8 : B 8 = .slice (some ⟨H + 1, 0, none⟩) k k) (h9 : B 9 = .int .i64 held) (hh : 0 < held) (h11 : B 11 = .int .i64 (g : Int))
    (hno : ∀ i, i < k → N ((g + i) % k) = 0) :
    Calls Yba.prog 7 #[.pointer (some ⟨H, 0, none⟩)] w fun e w' => e = .returned (.tuple #[.int .i64 0, .bool false]) ∧ ∃ q, w' = w.drewN q := by
  have b8 := h.buf 8 (by omega)
  have b9 := h.buf 9 (by omega)
  have b11 := h.buf 11 (by omega)
  rw [h8] at b8
  rw [h9] at b9
  rw [h11] at b11
  have ST : Hid (St H k c B F N X F' N' X' w) := h
  have NO : Hid (∀ i, i < k → N ((g + i) % k) = 0) := hno
  have hd : decide ((0 : Int) < held) = true := decide_eq_true hh
  clear h h8 h9 h11 hno
  go_enter Yba.func7, Yba.ntmps7
  go_wp2
  go_loopw [2, 3, 4, 5, 6, 7, 8, 9, 21] (fun _ _ _ _ _ _ _ _ t21 wr => ∃ i q : Nat, i ≤ k ∧ t21 = .int .i64 (i : Int) ∧ wr = w.drewN q) (fun _ _ _ _ _ _ _ _ t21 _ => k - (intOf t21).toNat)
  case atStart => exact ⟨0, 0, Nat.zero_le _, rfl, rfl⟩
  case round =>
    obtain ⟨i, q, hi, rfl, rfl⟩ := hrel
    by_cases hlt : i < k
    · have hlti : (i : Int) < (k : Int) := by omega
      obtain ⟨a, ea⟩ : ∃ a, (g + i) % k = a := ⟨_, rfl⟩
      have hak : a < k := by rw [← ea]; exact Nat.mod_lt _ (by omega)
      have haki : (a : Int) < (k : Int) := by omega
      have e1 : ((g : Int) + (i : Int)) % (k : Int) = (a : Int) := by rw [← ea]; simp
      have e2 : ((g : Int) + (i : Int)).tmod (k : Int) = (a : Int) := by rw [Int.tmod_eq_emod_of_nonneg (by omega)]; exact e1
      have hkz : ((k : Int) == 0) = false := by simp; omega
      have g0 := ST.out.segs a hak
      have g2 := ST.out.seg2 a hak
      rw [← ea, NO.out i hlt, ea] at g2
      clear ea
      go_wp2
      go_quiet (fail)
      go_wp2_with fail
      refine (pop_none (H + 7 + 3 * a) (w.drewN (q + nq)) g2).mono ?_
      rintro e w1 ⟨rfl, rfl⟩
      go_wp2
      go_roundw
      case rel => exact ⟨i + 1, _, by omega, by go_num, rfl⟩
      case measure => simp [intOf]; omega
    · have hd2 : decide ((i : Int) < (k : Int)) = false := decide_eq_false (by omega)
      go_wp2
      go_ret2
      exact ⟨rfl, q, rfl⟩

set_option maxHeartbeats 4000000 in
set_option maxRecDepth 100000 in
theorem get_plain (h : St H k c B F N X F' N' X' w) (held : Int) (g i0 a f f2 : Nat) (n : Int) (hk : k ≤ 300) (hg : g ≤ 255) (h8 : B 8 = .slice (some ⟨H + 1, 0, none⟩) k k) (h9 : B 9 = .int .i64 held) (hh : 0 < held) (hh2 : held ≤ 10000) (h11 : B 11 = .int .i64 (g : Int)) (h5 : B 5 = .int .u64 0)
    (hi0 : i0 < k) (hno : ∀ i, i < i0 → N ((g + i) % k) = 0) (ea0 : (g + i0) % k = a) (hf : f < c) (hc : c ≤ 8) (hF : F a = (f : Int)) (hN : N a = n) (hn : 0 < n) (hn8 : n ≤ 8) (hf2 : (f + 1) % c = f2) (h13 : B 13 = .pointer none) :
    Calls Yba.prog 7 #[.pointer (some ⟨H, 0, none⟩)] w fun e w' => e = .returned (.tuple #[.int .i64 (X a f), .bool true]) ∧
      St H k c (updB (updB (updB B 11 (.int .i64 (a : Int))) 5 (.int .u64 1)) 9 (.int .i64 (held - 1))) (updI F a (f2 : Int)) (updI N a (n - 1)) (updX X a f 0) F' N' X' w' ∧ Out (Mine H k) w w' := by
  have b8 := h.buf 8 (by omega)
  have b9 := h.buf 9 (by omega)
  have b11 := h.buf 11 (by omega)
  rw [h8] at b8
  rw [h9] at b9
  rw [h11] at b11
  have ST : Hid (St H k c B F N X F' N' X' w) := h
  have NO : Hid (∀ i, i < i0 → N ((g + i) % k) = 0) := hno
  have hd : decide ((0 : Int) < held) = true := decide_eq_true hh
  have EA : Hid ((g + i0) % k = a) := ea0
  clear h hno ea0
  go_enter Yba.func7, Yba.ntmps7
  go_wp2
  go_loopw [2, 3, 4, 5, 6, 7, 8, 9, 21] (fun _ _ _ _ _ _ _ _ t21 wr => ∃ i q : Nat, i ≤ i0 ∧ t21 = .int .i64 (i : Int) ∧ wr = w.drewN q) (fun _ _ _ _ _ _ _ _ t21 _ => k - (intOf t21).toNat)
  case atStart => exact ⟨0, 0, Nat.zero_le _, rfl, rfl⟩
  case round =>
    obtain ⟨i, q, hi, rfl, rfl⟩ := hrel
    have hlti : (i : Int) < (k : Int) := by omega
    have hkz : ((k : Int) == 0) = false := by simp; omega
    by_cases hlt : i < i0
    · obtain ⟨a, ea⟩ : ∃ a, (g + i) % k = a := ⟨_, rfl⟩
      have hak : a < k := by rw [← ea]; exact Nat.mod_lt _ (by omega)
      have haki : (a : Int) < (k : Int) := by omega
      have e1 : ((g : Int) + (i : Int)) % (k : Int) = (a : Int) := by rw [← ea]; simp
      have e2 : ((g : Int) + (i : Int)).tmod (k : Int) = (a : Int) := by rw [Int.tmod_eq_emod_of_nonneg (by omega)]; exact e1
      have g0 := ST.out.segs a hak
      have g2 := ST.out.seg2 a hak
      rw [← ea, NO.out i hlt, ea] at g2
      clear ea
      go_wp2
      go_quiet (fail)
      go_wp2_with fail
      refine (pop_none (H + 7 + 3 * a) (w.drewN (q + nq)) g2).mono ?_
      rintro e w1 ⟨rfl, rfl⟩
      go_wp2
      go_roundw
      case rel => exact ⟨i + 1, _, by omega, by go_num, rfl⟩
      case measure => simp [intOf]; omega
    · obtain rfl : i = i0 := by omega
      have hak : a < k := by rw [← EA.out]; exact Nat.mod_lt _ (by omega)
      have haki : (a : Int) < (k : Int) := by omega
      have e1 : ((g : Int) + (i : Int)) % (k : Int) = (a : Int) := by rw [← EA.out]; simp
      have e2 : ((g : Int) + (i : Int)).tmod (k : Int) = (a : Int) := by rw [Int.tmod_eq_emod_of_nonneg (by omega)]; exact e1
      have g0 := ST.out.segs a hak
      go_wp2
      go_quiet (fail)
      go_wp2_with fail
      refine (pop_st (ST.out.drewN (q + nq)) a f f2 n hak hf hc hF hN hn hn8 hf2).mono ?_
      rintro e w1 ⟨rfl, hs1, ho1⟩
      have S1 : Hid (St H k c B (updI F a (f2 : Int)) (updI N a (n - 1)) (updX X a f 0) F' N' X' w1) := hs1
      have O1 : Hid (Out (Mine H k) w w1) := ((Out.refl _ w).drewN (q + nq)).trans ho1
      have k11 := hs1.buf 11 (by omega)
      rw [h11] at k11
      have z11 := hs1.free H 11 (by omega) (by omega)
      obtain ⟨x, hx⟩ : ∃ x, X a f = x := ⟨_, rfl⟩
      rw [hx]
      have HXX : Hid (X a f = x) := hx
      clear hs1 ho1 hx
      go_wp2_with fail
      refine (add_st (S1.out.setBuf 11 (by omega) (.int .i64 (a : Int))) (by rw [updB_other _ _ _ _ (by omega)]; exact h5)).mono ?_
      rintro e w2 ⟨rfl, hs2, ho2⟩
      have S2 : Hid (St H k c (updB (updB B 11 (.int .i64 (a : Int))) 5 (.int .u64 1)) (updI F a (f2 : Int)) (updI N a (n - 1)) (updX X a f 0) F' N' X' w2) := hs2
      have O2 : Hid (Out (Mine H k) w w2) := (O1.out.set H 11 _ ⟨by omega, by omega⟩).trans ho2
      clear hs2 ho2 S1 O1 k11 z11
      have k13 := S2.out.buf 13 (by omega)
      rw [updB_other _ _ _ _ (by omega), updB_other _ _ _ _ (by omega), h13] at k13
      have k9 := S2.out.buf 9 (by omega)
      rw [updB_other _ _ _ _ (by omega), updB_other _ _ _ _ (by omega), h9] at k9
      have z9 := S2.out.free H 9 (by omega) (by omega)
      go_wp2_with fail
      refine (lpop_none H w2 k13).mono ?_
      rintro e w3 ⟨rfl, rfl⟩
      go_wp2
      go_ret2
      rw [HXX.out]
      exact ⟨rfl, S2.out.setBuf 9 (by omega) _, O2.out.set H 9 _ ⟨by omega, by omega⟩⟩

/-- A channel closed: all other blocks are as they were. -/
theorem out_close {S : Nat → Prop} {a w : World} (h : Out S a w) (C : Nat) (O : Obj) (hC : S C) : Out S a { w with heap := w.heap.setIfInBounds C O } :=
  h.trans ⟨rfl, rfl, rfl, by simp, fun k _ hn => by
    show (w.heap.setIfInBounds C O)[k]? = w.heap[k]?
    rw [Array.getElem?_setIfInBounds_ne (fun e => hn (by rw [← e]; exact hC))]⟩

theorem St.outS {w' : World} {S : Nat → Prop} (h : St H k c B F N X F' N' X' w) (ho : Out S w w') (hS : ∀ b, S b → H + 5 + 3 * k ≤ b) : St H k c B F N X F' N' X' w' :=
  h.kept (ho.below h.size hS)

set_option maxHeartbeats 4000000 in
set_option maxRecDepth 100000 in
theorem get_wait (h : St H k c B F N X F' N' X' w) (held : Int) (g i0 a f f2 : Nat) (n : Int) (hk : k ≤ 300) (hg : g ≤ 255) (h8 : B 8 = .slice (some ⟨H + 1, 0, none⟩) k k) (h9 : B 9 = .int .i64 held) (hh : 0 < held) (h11 : B 11 = .int .i64 (g : Int)) (h5 : B 5 = .int .u64 0)
    (hi0 : i0 < k) (hno : ∀ i, i < i0 → N ((g + i) % k) = 0) (ea0 : (g + i0) % k = a) (hf : f < c) (hc : c ≤ 8) (hF : F a = (f : Int)) (hN : N a = n) (hn : 0 < n) (hn8 : n ≤ 8) (hf2 : (f + 1) % c = f2) (W C f3 n1 : Nat) (v : Int) (hW : H + 5 + 3 * k ≤ W) (hC : H + 5 + 3 * k ≤ C) (hCW : C ≠ W) (h13 : B 13 = .pointer (some ⟨W, 0, none⟩)) (h14 : B 14 = .pointer (some ⟨W, 0, none⟩)) (h15 : B 15 = .int .i64 1)
    (hw : Wait W C (.pointer (some ⟨W, 0, none⟩)) true v w) (hch : w.heap[C]? = some (.chan 0 #[] false 0 0 false)) (hn1 : n - 1 = (n1 : Int)) (hn1c : n1 < c) (hf2c : f2 < c) (hf3 : (f2 + n1) % c = f3) :
    Calls Yba.prog 7 #[.pointer (some ⟨H, 0, none⟩)] w fun e w' => e = .returned (.tuple #[.int .i64 (X a f), .bool true]) ∧
      St H k c (updB (updB (updB (updB (updB B 11 (.int .i64 (a : Int))) 5 (.int .u64 1)) 13 (.pointer none)) 14 (.pointer none)) 15 (.int .i64 0)) (updI F a (f2 : Int)) (updI (updI N a (n - 1)) a ((n1 : Int) + 1)) (updX (updX X a f 0) a f3 v) F' N' X' w' ∧
      Wait W C (.pointer (some ⟨W, 0, none⟩)) false v w' ∧ Out (fun b => Mine H k b ∨ b = W ∨ b = C) w w' := by
  have b8 := h.buf 8 (by omega)
  have b9 := h.buf 9 (by omega)
  have b11 := h.buf 11 (by omega)
  rw [h8] at b8
  rw [h9] at b9
  rw [h11] at b11
  have ST : Hid (St H k c B F N X F' N' X' w) := h
  have NO : Hid (∀ i, i < i0 → N ((g + i) % k) = 0) := hno
  have hd : decide ((0 : Int) < held) = true := decide_eq_true hh
  have EA : Hid ((g + i0) % k = a) := ea0
  have WT : Hid (Wait W C (.pointer (some ⟨W, 0, none⟩)) true v w) := hw
  have HCH : Hid (w.heap[C]? = some (.chan 0 #[] false 0 0 false)) := hch
  have hCs : C < w.heap.size := (Array.getElem?_eq_some_iff.1 hch).1
  have hWs := hw.lt
  clear h hno ea0 hw hch
  go_enter Yba.func7, Yba.ntmps7
  go_wp2
  go_loopw [2, 3, 4, 5, 6, 7, 8, 9, 21] (fun _ _ _ _ _ _ _ _ t21 wr => ∃ i q : Nat, i ≤ i0 ∧ t21 = .int .i64 (i : Int) ∧ wr = w.drewN q) (fun _ _ _ _ _ _ _ _ t21 _ => k - (intOf t21).toNat)
  case atStart => exact ⟨0, 0, Nat.zero_le _, rfl, rfl⟩
  case round =>
    obtain ⟨i, q, hi, rfl, rfl⟩ := hrel
    have hlti : (i : Int) < (k : Int) := by omega
    have hkz : ((k : Int) == 0) = false := by simp; omega
    by_cases hlt : i < i0
    · obtain ⟨a, ea⟩ : ∃ a, (g + i) % k = a := ⟨_, rfl⟩
      have hak : a < k := by rw [← ea]; exact Nat.mod_lt _ (by omega)
      have haki : (a : Int) < (k : Int) := by omega
      have e1 : ((g : Int) + (i : Int)) % (k : Int) = (a : Int) := by rw [← ea]; simp
      have e2 : ((g : Int) + (i : Int)).tmod (k : Int) = (a : Int) := by rw [Int.tmod_eq_emod_of_nonneg (by omega)]; exact e1
      have g0 := ST.out.segs a hak
      have g2 := ST.out.seg2 a hak
      rw [← ea, NO.out i hlt, ea] at g2
      clear ea
      go_wp2
      go_quiet (fail)
      go_wp2_with fail
      refine (pop_none (H + 7 + 3 * a) (w.drewN (q + nq)) g2).mono ?_
      rintro e w1 ⟨rfl, rfl⟩
      go_wp2
      go_roundw
      case rel => exact ⟨i + 1, _, by omega, by go_num, rfl⟩
      case measure => simp [intOf]; omega
    · obtain rfl : i = i0 := by omega
      have hak : a < k := by rw [← EA.out]; exact Nat.mod_lt _ (by omega)
      have haki : (a : Int) < (k : Int) := by omega
      have e1 : ((g : Int) + (i : Int)) % (k : Int) = (a : Int) := by rw [← EA.out]; simp
      have e2 : ((g : Int) + (i : Int)).tmod (k : Int) = (a : Int) := by rw [Int.tmod_eq_emod_of_nonneg (by omega)]; exact e1
      have g0 := ST.out.segs a hak
      go_wp2
      go_quiet (fail)
      go_wp2_with fail
      refine (pop_st (ST.out.drewN (q + nq)) a f f2 n hak hf hc hF hN hn hn8 hf2).mono ?_
      rintro e w1 ⟨rfl, hs1, ho1⟩
      have S1 : Hid (St H k c B (updI F a (f2 : Int)) (updI N a (n - 1)) (updX X a f 0) F' N' X' w1) := hs1
      have O1 : Hid (Out (Mine H k) w w1) := ((Out.refl _ w).drewN (q + nq)).trans ho1
      have k11 := hs1.buf 11 (by omega)
      rw [h11] at k11
      have z11 := hs1.free H 11 (by omega) (by omega)
      obtain ⟨x, hx⟩ : ∃ x, X a f = x := ⟨_, rfl⟩
      rw [hx]
      have HXX : Hid (X a f = x) := hx
      clear hs1 ho1 hx
      go_wp2_with fail
      refine (add_st (S1.out.setBuf 11 (by omega) (.int .i64 (a : Int))) (by rw [updB_other _ _ _ _ (by omega)]; exact h5)).mono ?_
      rintro e w2 ⟨rfl, hs2, ho2⟩
      have S2 : Hid (St H k c (updB (updB B 11 (.int .i64 (a : Int))) 5 (.int .u64 1)) (updI F a (f2 : Int)) (updI N a (n - 1)) (updX X a f 0) F' N' X' w2) := hs2
      have O2 : Hid (Out (Mine H k) w w2) := (O1.out.set H 11 _ ⟨by omega, by omega⟩).trans ho2
      clear hs2 ho2 S1 O1 k11 z11
      have nW : ¬ Mine H k W := fun e => by have := e.2; omega
      have nC : ¬ Mine H k C := fun e => by have := e.2; omega
      have W2 : Hid (Wait W C (.pointer (some ⟨W, 0, none⟩)) true v w2) := WT.out.out O2.out nW
      have C2 : Hid (w2.heap[C]? = some (.chan 0 #[] false 0 0 false)) := (O2.out.block C hCs nC).trans HCH.out
      have s2 := O2.out.size
      go_wp2_with fail
      refine (lpop_st S2.out W C v hW (by rw [updB_other _ _ _ _ (by omega), updB_other _ _ _ _ (by omega)]; exact h13) (by rw [updB_other _ _ _ _ (by omega), updB_other _ _ _ _ (by omega)]; exact h14) (by rw [updB_other _ _ _ _ (by omega), updB_other _ _ _ _ (by omega)]; exact h15) W2.out).mono ?_
      rintro e w3 ⟨rfl, hs3, hw3, ho3⟩
      have S3 : Hid (St H k c (updB (updB (updB (updB (updB B 11 (.int .i64 (a : Int))) 5 (.int .u64 1)) 13 (.pointer none)) 14 (.pointer none)) 15 (.int .i64 0)) (updI F a (f2 : Int)) (updI N a (n - 1)) (updX X a f 0) F' N' X' w3) := hs3
      have W3 : Hid (Wait W C (.pointer (some ⟨W, 0, none⟩)) false v w3) := hw3
      have O3 : Hid (Out (fun b => Mine H k b ∨ b = W ∨ b = C) w w3) := (O2.out.mono (fun b hb => .inl hb)).trans (ho3.mono (fun b hb => by rcases hb with hb | hb; exact .inl hb; exact .inr (.inl hb)))
      have C3 : Hid (w3.heap[C]? = some (.chan 0 #[] false 0 0 false)) := (ho3.block C (by omega) (fun e => by rcases e with e | e; exact nC e; exact hCW e)).trans C2.out
      have s3 := ho3.size
      have k5 := hw3.c5
      clear hs3 hw3 ho3 S2 W2 C2 O2
      go_wp2_with fail
      refine (push_st S3.out a f2 f3 n1 v hak hf2c hc (updI_same _ _ _) (by rw [updI_same]; exact hn1) hn1c hf3).mono ?_
      rintro e w4 ⟨rfl, hs4, ho4⟩
      have S4 : Hid (St H k c (updB (updB (updB (updB (updB B 11 (.int .i64 (a : Int))) 5 (.int .u64 1)) 13 (.pointer none)) 14 (.pointer none)) 15 (.int .i64 0)) (updI F a (f2 : Int)) (updI (updI N a (n - 1)) a ((n1 : Int) + 1)) (updX (updX X a f 0) a f3 v) F' N' X' w4) := hs4
      have W4 : Hid (Wait W C (.pointer (some ⟨W, 0, none⟩)) false v w4) := W3.out.out ho4 nW
      have O4 : Hid (Out (fun b => Mine H k b ∨ b = W ∨ b = C) w w4) := O3.out.trans (ho4.mono (fun b hb => .inl hb))
      have C4 : w4.heap[C]? = some (.chan 0 #[] false 0 0 false) := (ho4.block C (by omega) nC).trans C3.out
      have k4 := W4.out.c4
      have hcl := fun (ats : Array TypeId) (ty : TypeId) => run_close_open (P := Yba.prog) ats ty C4
      clear hs4 ho4 S3 W3 C3 O3 C4 k5
      go_wp2
      go_ret2
      rw [HXX.out]
      refine ⟨rfl, ?_, ?_, out_close O4.out C _ (.inr (.inr rfl))⟩
      · exact S4.out.outS (out_close (S := fun b => b = C) (Out.refl _ _) C _ rfl) (fun b hb => by rw [hb]; exact hC)
      · exact W4.out.out (out_close (S := fun b => b = C) (Out.refl _ _) C _ rfl) (fun e => hCW e.symm)
end
end Go.Proofs.Ybulkbyyw
