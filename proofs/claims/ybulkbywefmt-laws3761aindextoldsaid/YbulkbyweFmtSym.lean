import Derived.Test.YbulkbyweFmtSymP
import Derived.Test.YbulkbyweFmtRot2
namespace Go.Proofs.YbulkbyweFmt
open Go.Shelf Go.RowKit Go.Lib Go.Sort Go.Proofs

theorem swk_cells {w0 W : World} {blk off : Nat} {d0 dk : Array (Nat × Nat)} (h : SWK encP 2 w0 blk off dk W) (R : RowK encP 2 w0 blk off d0) (hs : dk.size = d0.size) (A : Nat) (hA : A < dk.size) (n : Nat) (os : Array Obj) :
    (grow (W.drewN n) os).cell? ⟨blk, off + A * 2, none⟩ = some (.int .u64 dk[A]!.1) ∧ (grow (W.drewN n) os).cell? ⟨blk, off + A * 2 + 1, none⟩ = some (.int .i64 dk[A]!.2) := by
  have hH := (h.grown n os).holds R.hblk R.hH hs
  exact ⟨(hH.cell (i := A) (c := 0) hA (by omega)).1, (hH.cell (i := A) (c := 1) hA (by omega)).1⟩

theorem cmp_grown (x y : Nat × Nat) (W : World) (n : Nat) (os : Array Obj) :
    Calls Ybaf.prog 14 #[.agg #[.int .u64 x.1, .int .i64 x.2], .agg #[.int .u64 y.1, .int .i64 y.2]] (grow (W.drewN n) os) fun e w'' => e = .returned (.int .i64 (cmpP x y)) ∧ ∃ p : GrownBy, w'' = grow (W.drewN p.n) p.os :=
  Calls.grown_of (byPlace14 x y _)

theorem RotR.stepL {d dk : Array (Nat × Nat)} {a m k : Nat} (h : RotR d dk a m (k + 1)) (hm : m = a + 1) (hak : a ≤ k) (hk : k + 1 < d.size) : RotR d (swp dk k (k + 1)) a m (k + 1 + 1) := by
  have hz := h.1
  refine ⟨by rw [size_swp]; exact h.1, fun t => ?_⟩
  by_cases h1 : t = k
  · subst h1
    rw [swp_left dk t (t + 1) (by omega) (by omega), h.2, if_neg (by omega), if_pos (by omega), if_pos (by omega)]
    exact congrArg (fun q => d[q]!) (by omega)
  · by_cases h2 : t = k + 1
    · subst h2
      rw [swp_right dk k (k + 1) (by omega), h.2, if_pos (by omega), if_neg (by omega), if_pos (by omega), if_neg (by omega)]
      exact congrArg (fun q => d[q]!) (by omega)
    · rw [swp_other dk _ _ t h1 h2, h.2, rotIdx, rotIdx]
      congr 1
      split <;> split <;> (try split) <;> (try split) <;> omega

set_option maxHeartbeats 1000000 in
set_option maxRecDepth 1000000 in
theorem sym_left1 (blk off cap a b : Nat) (d0 d : Array (Nat × Nat)) (w0 w : World) (R : RowK encP 2 w0 blk off d0) (hs : d0.size = d.size) (S : SWK encP 2 w0 blk off d w)
    (U : Runs d a (a + 1) b) (hmb : a + 1 < b) (hb : b ≤ d.size) (hsz : d.size < 4611686018427387904) (m : Nat) (hm : m = a + 1) :
    Calls Ybaf.prog 45 #[.slice (some ⟨blk, off, none⟩) d.size cap, .int .i64 a, .int .i64 m, .int .i64 b, .func (.func 14) #[] #[]] w fun e w' =>
      e = .returned (.tuple #[]) ∧ ∃ d', (PermIn a b d d' ∧ SortedIn lexB a b d') ∧ SWK encP 2 w0 blk off d' w' := by
  have mixed := Ybaf.laysIns.mixed
  have eg := enters14
  have S0 : Aside (SWK encP 2 w0 blk off d w) := S
  have U0 : Aside (Runs d a (a + 1) b) := U
  clear S U
  have r1 : IntKind.i64.wrap ((m : Int) - (a : Int)) = 1 := by rw [IntKind.wrap_i64]; omega
  have HM : Hid (m = a + 1) := hm
  have hm1 : a < m := by omega
  have hm2 : m < b := by omega
  clear hm
  go_enter Ybaf.func45, Ybaf.ntmps45
  go_wp2
  go_loopg [10, 11] (b - m) (fun kx s10 s11 wr => ∃ (i j : Nat), s10 = .int .i64 i ∧ s11 = .int .i64 j ∧ m ≤ i ∧ i ≤ j ∧ j ≤ b ∧ j - i ≤ kx ∧
    Aside ((m < i → lexB d[i - 1]! d[a]! = true) ∧ (j < b → lexB d[a]! d[j]! = true)) ∧ Aside (SWK encP 2 w0 blk off d wr))
  case atStart => exact ⟨m, b, rfl, rfl, Nat.le_refl _, by omega, Nat.le_refl _, Nat.le_refl _, ⟨fun h => absurd h (Nat.lt_irrefl _), fun h => absurd h (Nat.lt_irrefl _)⟩, S0⟩
  case round =>
    clear S0
    obtain ⟨i, j, rfl, rfl, hmi, hij, hjb, hkx, I, S1⟩ := hrel
    by_cases hlt : i < j
    · have hltz : (i : Int) < (j : Int) := by omega
      obtain ⟨h, hh⟩ : ∃ h, (i + j) / 2 = h := ⟨_, rfl⟩
      have rh : ((i : Int) + (j : Int)) / 2 = (h : Int) := by omega
      have hi1 : i ≤ h := by omega
      have hj1 : h < j := by omega
      clear hh
      have c1 := swk_cells S1.out R (by omega) h (by omega)
      have c2 := swk_cells S1.out R (by omega) a (by omega)
      have c1a := fun n os => (c1 n os).1
      have c1b := fun n os => (c1 n os).2
      have c2a := fun n os => (c2 n os).1
      have c2b := fun n os => (c2 n os).2
      have hcm := fun n os => cmp_grown d[h]! d[a]! wr n os
      have hx : (d[a]!).2 < (d[h]!).2 := U0.out.cross a h (Nat.le_refl _) (by omega) (by have := HM.out; omega) (by omega)
      have b1 : (h : Int) < (d.size : Int) := by omega
      have b2 : (a : Int) < (d.size : Int) := by omega
      by_cases hlv : cmpP d[h]! d[a]! < 0
      · have L : Hid (lexB d[h]! d[a]! = true) := (cmpP_lt hx).1 hlv
        clear c1 c2 hx
        generalize cmpP d[h]! d[a]! = r at hcm hlv
        generalize (d[h]!).1 = x1 at c1a hcm
        generalize (d[h]!).2 = x2 at c1b hcm
        generalize (d[a]!).1 = y1 at c2a hcm
        generalize (d[a]!).2 = y2 at c2b hcm
        go_wp2_with fail
        go_quiet_grown (first | (go_at_fn 14; refine hcm _ _))
        have S2 : Aside (SWK encP 2 w0 blk off d (grow (wr.drewN nq) osq)) := S1.out.grown nq osq
        clear c1a c1b c2a c2b hcm S1
        generalize grow (wr.drewN nq) osq = w2 at S2 ⊢
        clear nq osq
        go_wp2
        go_roundg (j - (h + 1))
        case measure => omega
        case rel => exact ⟨h + 1, j, by go_num, rfl, by omega, by omega, hjb, Nat.le_refl _, ⟨fun _ => L.out, I.out.2⟩, S2⟩
      · have L : Hid (lexB d[a]! d[h]! = true) := (cmpP_nlt hx).1 hlv
        clear c1 c2 hx
        generalize cmpP d[h]! d[a]! = r at hcm hlv
        generalize (d[h]!).1 = x1 at c1a hcm
        generalize (d[h]!).2 = x2 at c1b hcm
        generalize (d[a]!).1 = y1 at c2a hcm
        generalize (d[a]!).2 = y2 at c2b hcm
        go_wp2_with fail
        go_quiet_grown (first | (go_at_fn 14; refine hcm _ _))
        have S2 : Aside (SWK encP 2 w0 blk off d (grow (wr.drewN nq) osq)) := S1.out.grown nq osq
        clear c1a c1b c2a c2b hcm S1
        generalize grow (wr.drewN nq) osq = w2 at S2 ⊢
        clear nq osq
        go_wp2
        go_roundg (h - i)
        case measure => omega
        case rel => exact ⟨i, h, rfl, by go_num, hmi, hi1, by omega, Nat.le_refl _, ⟨I.out.1, fun _ => L.out⟩, S2⟩
    · have hltz : ¬ (i : Int) < (j : Int) := by omega
      obtain rfl : i = j := by omega
      go_wp2
      have ri : IntKind.i64.wrap ((i : Int) - 1) = (i : Int) - 1 := by rw [IntKind.wrap_i64]; omega
      go_loopg [13] (b - a) (fun kx s13 wr => ∃ (k : Nat) (dk : Array (Nat × Nat)), s13 = .int .i64 k ∧ a ≤ k ∧ k + 1 ≤ i ∧ i - 1 - k ≤ kx ∧ dk.size = d.size ∧ Aside (RotR d dk a m (k + 1)) ∧ Aside (SWK encP 2 w0 blk off dk wr))
      case atStart => exact ⟨a, d, rfl, Nat.le_refl _, by omega, by omega, rfl, RotR.id (Or.inr HM.out) (by omega) (by have := HM.out; omega), S1⟩
      case round =>
        clear S1
        obtain ⟨k, dk, rfl, hak, hki, hkx2, hds, H1, S2⟩ := hrel
        by_cases hk : k + 1 < i
        · have hkz : (k : Int) < (i : Int) - 1 := by omega
          have ra : IntKind.i64.wrap ((k : Int) + 1) = ((k + 1 : Nat) : Int) := by rw [IntKind.wrap_i64]; omega
          have S3 : Aside (SWK encP 2 w0 blk off (swp dk k (k + 1)) (exchW blk off k (k + 1) dk[k]! dk[k + 1]! wr)) := swk_swapped S2.out R k (k + 1) (by omega) (by omega)
          have H2 : Aside (RotR d (swp dk k (k + 1)) a m (k + 1 + 1)) := H1.out.stepL HM.out hak (by omega)
          have hsw : (swp dk k (k + 1)).size = d.size := by rw [size_swp]; exact hds
          obtain ⟨a0, a1, b0, b1, fa0, fa1, fb0, fb1⟩ := swk_exch S2.out R (by omega) k (k + 1) (by omega) (by omega)
          obtain ⟨⟨x1, x2⟩, hx⟩ : ∃ x, dk[k]! = x := ⟨_, rfl⟩
          obtain ⟨⟨y1, y2⟩, hy⟩ : ∃ x, dk[k + 1]! = x := ⟨_, rfl⟩
          rw [hx] at a0 a1 S3
          rw [hy] at b0 b1 S3
          generalize swp dk k (k + 1) = dk2 at S3 H2 hsw
          clear S2 H1 hx hy
          obtain ⟨B, hB⟩ : ∃ B, k + 1 = B := ⟨_, rfl⟩
          rw [hB] at S3 H2 b0 b1 fb0 fb1 ra
          have pb : (0 : Int) ≤ (B : Int) := by omega
          have bA : (k : Int) < (d.size : Int) := by omega
          have bB : (B : Int) < (d.size : Int) := by omega
          have hBi : B + 1 ≤ i := by omega
          have haB : a ≤ B := by omega
          have hne : k ≠ B := by omega
          have HB : Hid (k + 1 = B) := hB
          clear hB
          have e1 : (off + k * 2 = off + B * 2) = False := by simp; omega
          have e2 : (off + k * 2 = off + B * 2 + 1) = False := by simp; omega
          have e3 : (off + k * 2 + 1 = off + B * 2) = False := by simp; omega
          have e4 : (off + k * 2 + 1 = off + B * 2 + 1) = False := by simp; omega
          go_wp2_with fail
          go_big_region_o
          go_wp2
          go_roundg (i - 1 - B)
          case measure => have := HB.out; omega
          case rel => exact ⟨B, dk2, by go_num, haB, hBi, Nat.le_refl _, hsw, H2, S3⟩
        · have hkz : ¬ (k : Int) < (i : Int) - 1 := by omega
          obtain rfl : i = k + 1 := by omega
          go_wp2
          (try simp only [Exit.inBlock, Exit.then])
          refine bodyPost_ret (results_none rfl _ _ _) rfl ?_
          refine ⟨rfl, dk, ?_, S2.out⟩
          have hmm := HM.out
          subst hmm
          exact merge_left1 ⟨Nat.le_refl _, by omega, hmi, hjb, fun h _ => absurd h (Nat.lt_irrefl _), fun h _ => I.out.1 h⟩ U0.out H1.out hb rfl (fun h => I.out.2 h)
end Go.Proofs.YbulkbyweFmt
