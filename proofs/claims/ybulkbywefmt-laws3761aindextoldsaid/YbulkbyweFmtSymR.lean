import Derived.Test.YbulkbyweFmtSym
namespace Go.Proofs.YbulkbyweFmt
open Go.Shelf Go.RowKit Go.Lib Go.Sort Go.Proofs

theorem RotR.stepR {d dk : Array (Nat × Nat)} {m b k : Nat} (h : RotR d dk (k + 1) m b) (hm : b = m + 1) (hk : k + 1 ≤ m) (hb : b ≤ d.size) : RotR d (swp dk (k + 1) k) k m b := by
  have hz := h.1
  refine ⟨by rw [size_swp]; exact h.1, fun t => ?_⟩
  by_cases h1 : t = k + 1
  · subst h1
    rw [swp_left dk (k + 1) k (by omega) (by omega), h.2, if_neg (by omega), if_pos (by omega), if_neg (by omega)]
    exact congrArg (fun q => d[q]!) (by omega)
  · by_cases h2 : t = k
    · subst h2
      rw [swp_right dk (t + 1) t (by omega), h.2, if_pos (by omega), if_pos (by omega), if_pos (by omega), if_pos (by omega)]
      exact congrArg (fun q => d[q]!) (by omega)
    · rw [swp_other dk _ _ t h1 h2, h.2, rotIdx, rotIdx]
      congr 1
      split <;> split <;> (try split) <;> (try split) <;> omega

set_option maxHeartbeats 1000000 in
set_option maxRecDepth 1000000 in
theorem sym_right1 (blk off cap a m : Nat) (d0 d : Array (Nat × Nat)) (w0 w : World) (R : RowK encP 2 w0 blk off d0) (hs : d0.size = d.size) (S : SWK encP 2 w0 blk off d w)
    (b : Nat) (U : Runs d a m b) (ham : a + 1 < m) (hb : b ≤ d.size) (hsz : d.size < 4611686018427387904) (hm : b = m + 1) :
    Calls Ybaf.prog 45 #[.slice (some ⟨blk, off, none⟩) d.size cap, .int .i64 a, .int .i64 m, .int .i64 b, .func (.func 14) #[] #[]] w fun e w' =>
      e = .returned (.tuple #[]) ∧ ∃ d', (PermIn a b d d' ∧ SortedIn lexB a b d') ∧ SWK encP 2 w0 blk off d' w' := by
  have mixed := Ybaf.laysIns.mixed
  have eg := enters14
  have S0 : Aside (SWK encP 2 w0 blk off d w) := S
  have U0 : Aside (Runs d a m b) := U
  clear S U
  obtain ⟨q, hq⟩ : ∃ q, m - a = q := ⟨_, rfl⟩
  have r00 : IntKind.i64.wrap ((m : Int) - (a : Int)) = (q : Int) := by rw [IntKind.wrap_i64]; omega
  have r0 : ((q : Int) == 1) = false := by simp; omega
  clear hq
  have r1 : IntKind.i64.wrap ((b : Int) - (m : Int)) = 1 := by rw [IntKind.wrap_i64]; omega
  have HM : Hid (b = m + 1) := hm
  have hm1 : a < m := by omega
  have hm2 : m < b := by omega
  clear hm
  go_enter Ybaf.func45, Ybaf.ntmps45
  go_wp2
  go_loopg [14, 15] (m - a) (fun kx s10 s11 wr => ∃ (i j : Nat), s10 = .int .i64 i ∧ s11 = .int .i64 j ∧ a ≤ i ∧ i ≤ j ∧ j ≤ m ∧ j - i ≤ kx ∧
    Aside ((a < i → lexB d[i - 1]! d[m]! = true) ∧ (j < m → lexB d[m]! d[j]! = true)) ∧ Aside (SWK encP 2 w0 blk off d wr))
  case atStart => exact ⟨a, m, rfl, rfl, Nat.le_refl _, by omega, Nat.le_refl _, Nat.le_refl _, ⟨fun h => absurd h (Nat.lt_irrefl _), fun h => absurd h (Nat.lt_irrefl _)⟩, S0⟩
  case round =>
    clear S0
    obtain ⟨i, j, rfl, rfl, hmi, hij, hjb, hkx, I, S1⟩ := hrel
    by_cases hlt : i < j
    · have hltz : (i : Int) < (j : Int) := by omega
      obtain ⟨h, hh⟩ : ∃ h, (i + j) / 2 = h := ⟨_, rfl⟩
      have rh : ((i : Int) + (j : Int)) / 2 = (h : Int) := by omega
      have hi1 : i ≤ h := by omega
      have hj1 : h < j := by omega
      clear hh
      have c1 := swk_cells S1.out R (by omega) h (by omega)
      have c2 := swk_cells S1.out R (by omega) m (by omega)
      have c1a := fun n os => (c1 n os).1
      have c1b := fun n os => (c1 n os).2
      have c2a := fun n os => (c2 n os).1
      have c2b := fun n os => (c2 n os).2
      have hcm := fun n os => cmp_grown d[m]! d[h]! wr n os
      have hx : (d[h]!).2 < (d[m]!).2 := U0.out.cross h m (by omega) (by omega) (Nat.le_refl _) (by omega)
      have b1 : (h : Int) < (d.size : Int) := by omega
      have b2 : (m : Int) < (d.size : Int) := by omega
      by_cases hlv : cmpP d[m]! d[h]! < 0
      · have L : Hid (lexB d[m]! d[h]! = true) := (cmpP_lt hx).1 hlv
        clear c1 c2 hx
        generalize cmpP d[m]! d[h]! = r at hcm hlv
        generalize (d[h]!).1 = x1 at c1a hcm
        generalize (d[h]!).2 = x2 at c1b hcm
        generalize (d[m]!).1 = y1 at c2a hcm
        generalize (d[m]!).2 = y2 at c2b hcm
        go_wp2_with fail
        go_quiet_grown (first | (go_at_fn 14; refine hcm _ _))
        have S2 : Aside (SWK encP 2 w0 blk off d (grow (wr.drewN nq) osq)) := S1.out.grown nq osq
        clear c1a c1b c2a c2b hcm S1
        generalize grow (wr.drewN nq) osq = w2 at S2 ⊢
        clear nq osq
        go_wp2
        go_roundg (h - i)
        case measure => omega
        case rel => exact ⟨i, h, rfl, by go_num, hmi, hi1, by omega, Nat.le_refl _, ⟨I.out.1, fun _ => L.out⟩, S2⟩
      · have L : Hid (lexB d[h]! d[m]! = true) := (cmpP_nlt hx).1 hlv
        clear c1 c2 hx
        generalize cmpP d[m]! d[h]! = r at hcm hlv
        generalize (d[h]!).1 = x1 at c1a hcm
        generalize (d[h]!).2 = x2 at c1b hcm
        generalize (d[m]!).1 = y1 at c2a hcm
        generalize (d[m]!).2 = y2 at c2b hcm
        have hlv0 : 0 ≤ r := by omega
        have hlv1 : decide (r < 0) = false := by simp; omega
        go_wp2_with fail
        go_quiet_grown (first | (go_at_fn 14; refine hcm _ _))
        have S2 : Aside (SWK encP 2 w0 blk off d (grow (wr.drewN nq) osq)) := S1.out.grown nq osq
        clear c1a c1b c2a c2b hcm S1
        generalize grow (wr.drewN nq) osq = w2 at S2 ⊢
        clear nq osq
        go_wp2
        go_roundg (j - (h + 1))
        case measure => omega
        case rel => exact ⟨h + 1, j, by go_num, rfl, by omega, by omega, hjb, Nat.le_refl _, ⟨fun _ => L.out, I.out.2⟩, S2⟩
    · have hltz : ¬ (i : Int) < (j : Int) := by omega
      obtain rfl : i = j := by omega
      go_wp2
      go_loopg [17] (b - a) (fun kx s17 wr => ∃ (k : Nat) (dk : Array (Nat × Nat)), s17 = .int .i64 k ∧ i ≤ k ∧ k ≤ m ∧ k - i ≤ kx ∧ dk.size = d.size ∧ Aside (RotR d dk k m b) ∧ Aside (SWK encP 2 w0 blk off dk wr))
      case atStart => exact ⟨m, d, rfl, hjb, Nat.le_refl _, by omega, rfl, RotR.id (Or.inl rfl) (Nat.le_refl _) (by omega), S1⟩
      case round =>
        clear S1
        obtain ⟨k, dk, rfl, hak, hki, hkx2, hds, H1, S2⟩ := hrel
        by_cases hk : i < k
        · have hkz : (i : Int) < (k : Int) := by omega
          obtain ⟨B, rfl⟩ : ∃ B, k = B + 1 := ⟨k - 1, by omega⟩
          have S3 : Aside (SWK encP 2 w0 blk off (swp dk (B + 1) B) (exchW blk off (B + 1) B dk[B + 1]! dk[B]! wr)) := swk_swapped S2.out R (B + 1) B (by omega) (by omega)
          have H2 : Aside (RotR d (swp dk (B + 1) B) B m b) := H1.out.stepR HM.out hki hb
          have hsw : (swp dk (B + 1) B).size = d.size := by rw [size_swp]; exact hds
          obtain ⟨a0, a1, b0, b1, fa0, fa1, fb0, fb1⟩ := swk_exch S2.out R (by omega) (B + 1) B (by omega) (by omega)
          obtain ⟨⟨x1, x2⟩, hx⟩ : ∃ x, dk[B + 1]! = x := ⟨_, rfl⟩
          obtain ⟨⟨y1, y2⟩, hy⟩ : ∃ x, dk[B]! = x := ⟨_, rfl⟩
          rw [hx] at a0 a1 S3
          rw [hy] at b0 b1 S3
          generalize swp dk (B + 1) B = dk2 at S3 H2 hsw
          clear S2 H1 hx hy
          obtain ⟨A, hA⟩ : ∃ A, B + 1 = A := ⟨_, rfl⟩
          rw [hA] at S3 a0 a1 fa0 fa1 hkz ⊢
          have ra : IntKind.i64.wrap ((A : Int) - 1) = (B : Int) := by rw [IntKind.wrap_i64]; omega
          have pb : (0 : Int) ≤ (B : Int) := by omega
          have bA : (A : Int) < (d.size : Int) := by omega
          have bB : (B : Int) < (d.size : Int) := by omega
          have hBi : i ≤ B := by omega
          have haB : B ≤ m := by omega
          have hne : A ≠ B := by omega
          have HB : Hid (B + 1 = A) := hA
          clear hA
          have e1 : (off + A * 2 = off + B * 2) = False := by simp; omega
          have e2 : (off + A * 2 = off + B * 2 + 1) = False := by simp; omega
          have e3 : (off + A * 2 + 1 = off + B * 2) = False := by simp; omega
          have e4 : (off + A * 2 + 1 = off + B * 2 + 1) = False := by simp; omega
          go_wp2_with fail
          go_big_region_o
          go_wp2
          go_roundg (B - i)
          case measure => have := HB.out; omega
          case rel => exact ⟨B, dk2, by go_num, hBi, haB, Nat.le_refl _, hsw, H2, S3⟩
        · have hkz : ¬ (i : Int) < (k : Int) := by omega
          obtain rfl : i = k := by omega
          go_wp2
          (try simp only [Exit.inBlock, Exit.then])
          refine bodyPost_ret (results_none rfl _ _ _) rfl ?_
          refine ⟨rfl, dk, ?_, S2.out⟩
          have hmm := HM.out
          subst hmm
          exact merge_right1 ⟨hmi, hjb, by omega, Nat.le_refl _, fun _ h => absurd h (Nat.lt_irrefl _), fun _ h => I.out.2 h⟩ U0.out H1.out hb rfl (fun h => I.out.1 h)
end Go.Proofs.YbulkbyweFmt
