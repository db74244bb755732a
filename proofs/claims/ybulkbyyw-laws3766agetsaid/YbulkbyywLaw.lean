import Derived.Test.YbulkbyywBuildW
import Derived.Conc.SmallLaws
namespace Go.Proofs.Ybulkbyyw
open Go.RowKit

section
variable {H k c : Nat} {B : Nat → Value} {F N : Nat → Int} {X : Nat → Nat → Int} {F' N' : Nat → Int} {X' : Nat → Nat → Int} {w : World}

theorem St.congr {B2 : Nat → Value} {F2 N2 : Nat → Int} {X2 : Nat → Nat → Int} {F2' N2' : Nat → Int} {X2' : Nat → Nat → Int} (h : St H k c B F N X F' N' X' w) (hB : ∀ o, o < 19 → B o = B2 o)
    (h1 : ∀ i, i < k → F i = F2 i) (h2 : ∀ i, i < k → N i = N2 i) (h3 : ∀ i j, i < k → j < c → X i j = X2 i j) (h4 : ∀ i, i < k → F' i = F2' i) (h5 : ∀ i, i < k → N' i = N2' i) (h6 : ∀ i j, i < k → j < c → X' i j = X2' i j) : St H k c B2 F2 N2 X2 F2' N2' X2' w where
  buf := fun o ho => by rw [h.buf o ho, hB o ho]
  segs := h.segs
  seg0 := h.seg0
  seg1 := fun i hi => by rw [h.seg1 i hi, h1 i hi]
  seg2 := fun i hi => by rw [h.seg2 i hi, h2 i hi]
  val := fun i j hi hj => by rw [h.val i j hi hj, h3 i j hi hj]
  vr := h.vr
  fr := fun i hi => by rw [h.fr i hi, h4 i hi]
  nr := fun i hi => by rw [h.nr i hi, h5 i hi]
  mv := fun i j hi hj => by rw [h.mv i j hi hj, h6 i j hi hj]
  free := h.free
  size := h.size
end

theorem belN {B : Nat} {w w' : World} (h : Below B w w') (q : Nat) : Below B w (w'.drewN q) := ⟨h.os, h.tape, h.output, h.size, h.block⟩

/-- What get does where it finds nothing. -/
theorem get_miss {H k c : Nat} {B : Nat → Value} {F N : Nat → Int} {X : Nat → Nat → Int} {F' N' : Nat → Int} {X' : Nat → Nat → Int} {w : World} (h : St H k c B F N X F' N' X' w) (held : Int) (g : Nat) (hk : k ≤ 300) (hg : g ≤ 255) (h8 : B 8 = .slice (some ⟨H + 1, 0, none⟩) k k) (h9 : B 9 = .int .i64 held) (h11 : B 11 = .int .i64 (g : Int))
    (hno : held ≤ 0 ∨ ∀ i, i < k → N ((g + i) % k) = 0) :
    Calls Yba.prog 7 #[.pointer (some ⟨H, 0, none⟩)] w fun e w' => e = .returned (.tuple #[.int .i64 0, .bool false]) ∧ ∃ q, w' = w.drewN q := by
  by_cases hh : held ≤ 0
  · refine (get_zero held (by rw [← h9]; exact h.buf 9 (by omega)) hh).mono ?_
    rintro e w' ⟨rfl, rfl⟩
    exact ⟨rfl, 0, rfl⟩
  · rcases hno with hno | hno
    · exact absurd hno hh
    · exact get_none h held g hk hg h8 h9 (by omega) h11 hno

set_option maxHeartbeats 4000000 in
set_option maxRecDepth 100000 in
theorem law_miss_plain (a0 : Option Addr) (k c c0 b0 o0 H g : Nat) (sel pv : Int) (sa : Nat → Option Addr) (sl sc bb oo : Nat → Nat) (fi ni : Nat → Int) (xi : Nat → Nat → Int) (F N : Nat → Int) (X : Nat → Nat → Int) (w : World) (hk : k ≤ 300) (hsel : 0 ≤ sel ∧ sel ≤ 255) (hc : sel % 8 + 1 = (c : Int)) (hg : g ≤ 255) (hH : w.heap.size = H)
    (hin : Inp w a0 k c0 b0 o0 sa sl sc bb oo fi ni xi) (hF : ∀ i, i < k → F i = fi i % (c : Int)) (hN : ∀ i, i < k → N i = ni i % ((c : Int) + 1)) (hX : ∀ i j, i < k → j < c → X i j = if j < sl i then xi i j else (i : Int) * 100 + (j : Int) + 1)
    (hno : hsum N k ≤ 0 ∨ ∀ i, i < k → N ((g + i) % k) = 0) :
    Calls Yba.prog 3 #[.slice a0 k c0, .int .u8 sel, .int .u8 (g : Int), .bool false, .int .i64 pv] w fun e w' => e = .returned (.bool true) ∧ Below H w w' := by
  obtain ⟨sel0, sel1⟩ := hsel
  have hc8 : c ≤ 8 := by omega
  have hc1 : 1 ≤ c := by omega
  have bN : ∀ i, i < k → 0 ≤ N i ∧ N i ≤ 8 := by
    intro i hi
    have b1 := Int.emod_nonneg (ni i) (show (c : Int) + 1 ≠ 0 by omega)
    have b2 := Int.emod_lt_of_pos (ni i) (show 0 < (c : Int) + 1 by omega)
    rw [hN i hi]; omega
  have hbd := hsum_bd N k bN k (Nat.le_refl _)
  have CB := build_any a0 k c c0 b0 o0 H sa sl sc bb oo fi ni xi F N X w hk hc8 hc1 hH hin hF hN hX
  obtain ⟨hd, hhd⟩ : ∃ hd, hsum N k = hd := ⟨_, rfl⟩
  rw [hhd] at CB hbd hno
  obtain ⟨hd0, hd1⟩ := hbd
  have HCB : Hid (Calls Yba.prog 5 #[.slice a0 k c0, .int .i64 (c : Int)] w fun e w' =>
      e = .returned (.tuple #[.pointer (some ⟨H, 0, none⟩), .slice (some ⟨H + 2, 0, none⟩) k k, .slice (some ⟨H + 3, 0, none⟩) k k, .slice (some ⟨H + 4, 0, none⟩) k k, .int .i64 hd]) ∧ St H k c (Bf H k c) F N X F N X w' ∧ Below H w w') := CB
  have NO : Hid (hd ≤ 0 ∨ ∀ i, i < k → N ((g + i) % k) = 0) := hno
  have hlen : decide ((300 : Int) < (k : Int)) = false := decide_eq_false (by omega)
  clear CB bN hin hF hN hX hno hhd
  go_enter Yba.func3, Yba.ntmps3
  go_wp2_with fail
  refine Calls.mono HCB.out ?_
  rintro e w1 ⟨rfl, hs1, hb1⟩
  have S1 : Hid (St H k c (updB (updB (Bf H k c) 9 (.int .i64 hd)) 11 (.int .i64 (g : Int))) F N X F N X ((w1.setCell ⟨H, 9, none⟩ (.int .i64 hd)).setCell ⟨H, 11, none⟩ (.int .i64 (g : Int)))) := (hs1.setBuf 9 (by omega) _).setBuf 11 (by omega) _
  have hb2 : Below H w ((w1.setCell ⟨H, 9, none⟩ (.int .i64 hd)).setCell ⟨H, 11, none⟩ (.int .i64 (g : Int))) := (hb1.setCell (Nat.le_refl _) _).setCell (Nat.le_refl _) _
  have c9 : w1.cell? ⟨H, 9, none⟩ = some (.int .i64 0) := hs1.buf 9 (by omega)
  have c11 : w1.cell? ⟨H, 11, none⟩ = some (.int .i64 0) := hs1.buf 11 (by omega)
  have z9 := hs1.free H 9 (by omega) (by omega)
  have z11 := hs1.free H 11 (by omega) (by omega)
  clear hs1 hb1 HCB
  obtain ⟨w2, hw2⟩ : ∃ w2, (w1.setCell ⟨H, 9, none⟩ (.int .i64 hd)).setCell ⟨H, 11, none⟩ (.int .i64 (g : Int)) = w2 := ⟨_, rfl⟩
  have S2 : Hid (St H k c (updB (updB (Bf H k c) 9 (.int .i64 hd)) 11 (.int .i64 (g : Int))) F N X F N X w2) := by rw [← hw2]; exact S1.out
  have hb3 : Below H w w2 := by rw [← hw2]; exact hb2
  clear S1 hb2
  go_wp2_with fail
  refine (get_miss S2.out hd g hk hg (by rw [updB_other _ _ _ _ (by omega), updB_other _ _ _ _ (by omega)]; rfl) (by rw [updB_other _ _ _ _ (by omega), updB_same]) (by rw [updB_same]) NO.out).mono ?_
  rintro e w3 ⟨rfl, q, rfl⟩
  have k9 : w2.cell? ⟨H, 9, none⟩ = some (.int .i64 hd) := S2.out.buf 9 (by omega)
  have k10 : w2.cell? ⟨H, 10, none⟩ = some (.int .i64 0) := S2.out.buf 10 (by omega)
  have k11 : w2.cell? ⟨H, 11, none⟩ = some (.int .i64 (g : Int)) := S2.out.buf 11 (by omega)
  have k15 : w2.cell? ⟨H, 15, none⟩ = some (.int .i64 0) := S2.out.buf 15 (by omega)
  have k5 : w2.cell? ⟨H, 5, none⟩ = some (.int .u64 0) := S2.out.buf 5 (by omega)
  clear c9 c11 z9 z11 hw2
  by_cases hz : hd ≤ 0
  case' pos =>
    have hdz : decide ((0 : Int) < hd) = false := decide_eq_false (by omega)
    clear NO
    go_wp2_with fail
  case' neg =>
    have hdz : decide ((0 : Int) < hd) = true := decide_eq_true (by omega)
    have NO2 : Hid (∀ i, i < k → N ((g + i) % k) = 0) := by rcases NO.out with h | h; exact absurd h hz; exact h
    clear NO
    go_wp2
    go_loop [21, 22, 23] (fun t21 t22 _ => ∃ i : Nat, i ≤ k ∧ t22 = .int .i64 (i : Int) ∧ t21 = .int .i64 (-1)) (fun _ t22 _ => k - (intOf t22).toNat)
    case atStart => exact ⟨0, Nat.zero_le _, rfl, rfl⟩
    case' round =>
      obtain ⟨i, hi, rfl, rfl⟩ := hrel
      by_cases hlt : i < k
      · have hlti : (i : Int) < (k : Int) := by omega
        obtain ⟨a, ea⟩ : ∃ a, (g + i) % k = a := ⟨_, rfl⟩
        have hak : a < k := by rw [← ea]; exact Nat.mod_lt _ (by omega)
        have haki : (a : Int) < (k : Int) := by omega
        have e1 : ((g : Int) + (i : Int)) % (k : Int) = (a : Int) := by rw [← ea]; simp
        have hkz : ((k : Int) == 0) = false := by simp; omega
        have g2 := S2.out.nr a hak
        rw [← ea, NO2.out i hlt, ea] at g2
        clear ea
        go_wp2
        go_round
        case rel => exact ⟨i + 1, by omega, by go_num, rfl⟩
        case measure => simp [intOf]; omega
      have hd2 : decide ((i : Int) < (k : Int)) = false := decide_eq_false (by omega)
      go_wp2_with fail
  all_goals
    refine (load_any H 5 0 (w2.drewN q) k5).mono ?_
    rintro e w4 ⟨rfl, rfl⟩
    go_wp2_with fail
    refine (same_any H k c _ F N X (w2.drewN q) (S2.out.drewN q) hk hc8 (by rw [updB_other _ _ _ _ (by omega), updB_other _ _ _ _ (by omega)]; rfl)).mono ?_
    rintro e w5 ⟨rfl, q2, rfl⟩
    go_wp2
    go_ret
    exact ⟨rfl, belN hb3 _⟩
end Go.Proofs.Ybulkbyyw
