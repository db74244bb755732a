import Derived.Test.YbulkbyweFmtCmp
namespace Go.Proofs.YbulkbyweFmt
open Go.Shelf Go.RowKit Go.Lib Go.Sort Go.Proofs

/-- d' is d with [a, a+n) and [b, b+n) exchanged. -/
def SwR (d d' : Array (Nat × Nat)) (a b n : Nat) : Prop :=
  d'.size = d.size ∧ ∀ t, d'[t]! = if a ≤ t ∧ t < a + n then d[t + (b - a)]! else if b ≤ t ∧ t < b + n then d[t - (b - a)]! else d[t]!

theorem SwR.zero (d : Array (Nat × Nat)) (a b : Nat) : SwR d d a b 0 :=
  ⟨rfl, fun t => by rw [if_neg (by omega), if_neg (by omega)]⟩

theorem SwR.step {d dk : Array (Nat × Nat)} {a b i n : Nat} (h : SwR d dk a b i) (hin : i < n) (hab : a + n ≤ b) (hb : b + n ≤ d.size) : SwR d (swp dk (a + i) (b + i)) a b (i + 1) := by
  refine ⟨by rw [size_swp]; exact h.1, fun t => ?_⟩
  have hsz := h.1
  by_cases h1 : t = a + i
  · subst h1
    rw [swp_left dk (a + i) (b + i) (by omega) (by omega), h.2, if_neg (by omega), if_neg (by omega), if_pos (by omega)]
    congr 1; omega
  · by_cases h2 : t = b + i
    · subst h2
      rw [swp_right dk (a + i) (b + i) (by omega), h.2, if_neg (by omega), if_neg (by omega), if_neg (by omega), if_pos (by omega)]
      congr 1; omega
    · rw [swp_other dk _ _ t h1 h2, h.2]
      by_cases h3 : a ≤ t ∧ t < a + i
      · have h3' : a ≤ t ∧ t < a + (i + 1) := by omega
        rw [if_pos h3, if_pos h3']
      · have h3' : ¬ (a ≤ t ∧ t < a + (i + 1)) := by omega
        rw [if_neg h3, if_neg h3']
        by_cases h4 : b ≤ t ∧ t < b + i
        · have h4' : b ≤ t ∧ t < b + (i + 1) := by omega
          rw [if_pos h4, if_pos h4']
        · have h4' : ¬ (b ≤ t ∧ t < b + (i + 1)) := by omega
          rw [if_neg h4, if_neg h4']

/-- The exchange of two elements, told of cells. -/
structure Exch (blk off A B : Nat) (x y : Nat × Nat) (wr : World) : Prop where
  a0 : wr.cell? ⟨blk, off + A * 2, none⟩ = some (.int .u64 x.1)
  a1 : wr.cell? ⟨blk, off + A * 2 + 1, none⟩ = some (.int .i64 x.2)
  b0 : wr.cell? ⟨blk, off + B * 2, none⟩ = some (.int .u64 y.1)
  b1 : wr.cell? ⟨blk, off + B * 2 + 1, none⟩ = some (.int .i64 y.2)
  fa0 : wr.frozen? ⟨blk, off + A * 2, none⟩ = false
  fa1 : wr.frozen? ⟨blk, off + A * 2 + 1, none⟩ = false
  fb0 : wr.frozen? ⟨blk, off + B * 2, none⟩ = false
  fb1 : wr.frozen? ⟨blk, off + B * 2 + 1, none⟩ = false

theorem swk_exch {w0 W : World} {blk off : Nat} {d0 dk : Array (Nat × Nat)} (h : SWK encP 2 w0 blk off dk W) (R : RowK encP 2 w0 blk off d0) (hs : dk.size = d0.size) (A B : Nat) (hA : A < dk.size) (hB : B < dk.size) :
    Exch blk off A B dk[A]! dk[B]! W := by
  have hH := h.holds R.hblk R.hH hs
  have a0 := hH.cell (i := A) (c := 0) hA (by omega)
  have a1 := hH.cell (i := A) (c := 1) hA (by omega)
  have b0 := hH.cell (i := B) (c := 0) hB (by omega)
  have b1 := hH.cell (i := B) (c := 1) hB (by omega)
  exact ⟨a0.1, a1.1, b0.1, b1.1, a0.2, a1.2, b0.2, b1.2⟩

/-- The world behind the exchange of elements A (now y) and B (now x). -/
def exchW (blk off A B : Nat) (x y : Nat × Nat) (wr : World) : World :=
  ((((wr.setCell ⟨blk, off + A * 2, none⟩ (.int .u64 y.1)).setCell ⟨blk, off + A * 2 + 1, none⟩ (.int .i64 y.2)).setCell ⟨blk, off + B * 2, none⟩ (.int .u64 x.1)).setCell ⟨blk, off + B * 2 + 1, none⟩ (.int .i64 x.2)).drew

theorem swk_swapped {w0 W : World} {blk off : Nat} {d0 dk : Array (Nat × Nat)} (h : SWK encP 2 w0 blk off dk W) (R : RowK encP 2 w0 blk off d0) (A B : Nat) (hA : A < dk.size) (hB : B < dk.size) :
    SWK encP 2 w0 blk off (swp dk A B) (exchW blk off A B dk[A]! dk[B]! W) := h.swapped R A B hA hB

set_option maxHeartbeats 4000000 in
set_option maxRecDepth 1000000 in
theorem swapRange57 (blk off cap a b n : Nat) (d0 d : Array (Nat × Nat)) (w0 w : World) (R : RowK encP 2 w0 blk off d0) (hs : d0.size = d.size) (S : SWK encP 2 w0 blk off d w)
    (hab : a + n ≤ b) (hb : b + n ≤ d.size) (hsz : d.size < 4611686018427387904) :
    Calls Ybaf.prog 57 #[.slice (some ⟨blk, off, none⟩) d.size cap, .int .i64 a, .int .i64 b, .int .i64 n, .func (.func 14) #[] #[]] w fun e w' =>
      e = .returned (.tuple #[]) ∧ ∃ d', SwR d d' a b n ∧ SWK encP 2 w0 blk off d' w' := by
  have mixed := Ybaf.laysIns.mixed
  have S0 : Aside (SWK encP 2 w0 blk off d w) := S
  clear S
  go_enter Ybaf.func57, Ybaf.ntmps57
  go_wp2
  go_loopg [10] n (fun kx s10 wr => ∃ (i : Nat) (dk : Array (Nat × Nat)), s10 = .int .i64 i ∧ i ≤ n ∧ n - i ≤ kx ∧ dk.size = d.size ∧ Aside (SwR d dk a b i) ∧ Aside (SWK encP 2 w0 blk off dk wr))
  case atStart => exact ⟨0, d, rfl, Nat.zero_le _, by omega, rfl, SwR.zero d a b, S0⟩
  case round =>
    clear S0
    obtain ⟨i, dk, rfl, hi, hkx, hds, H1, S1⟩ := hrel
    by_cases hlt : i < n
    · have hltz : (i : Int) < (n : Int) := by omega
      have ra : IntKind.i64.wrap ((a : Int) + (i : Int)) = ((a + i : Nat) : Int) := by rw [IntKind.wrap_i64]; omega
      have rb : IntKind.i64.wrap ((b : Int) + (i : Int)) = ((b + i : Nat) : Int) := by rw [IntKind.wrap_i64]; omega
      have pa : (0 : Int) ≤ ((a + i : Nat) : Int) := by omega
      have pb : (0 : Int) ≤ ((b + i : Nat) : Int) := by omega
      have ba : ((a + i : Nat) : Int) < (d.size : Int) := by omega
      have bb : ((b + i : Nat) : Int) < (d.size : Int) := by omega
      have S2 : Aside (SWK encP 2 w0 blk off (swp dk (a + i) (b + i)) (exchW blk off (a + i) (b + i) dk[a + i]! dk[b + i]! wr)) := swk_swapped S1.out R (a + i) (b + i) (by omega) (by omega)
      have H2 : Aside (SwR d (swp dk (a + i) (b + i)) a b (i + 1)) := H1.out.step hlt hab hb
      have hsw : (swp dk (a + i) (b + i)).size = d.size := by rw [size_swp]; exact hds
      obtain ⟨a0, a1, b0, b1, fa0, fa1, fb0, fb1⟩ := swk_exch S1.out R (by omega) (a + i) (b + i) (by omega) (by omega)
      have hne : a + i ≠ b + i := by omega
      obtain ⟨⟨x1, x2⟩, hx⟩ : ∃ x, dk[a + i]! = x := ⟨_, rfl⟩
      obtain ⟨⟨y1, y2⟩, hy⟩ : ∃ x, dk[b + i]! = x := ⟨_, rfl⟩
      rw [hx] at a0 a1 S2
      rw [hy] at b0 b1 S2
      generalize swp dk (a + i) (b + i) = dk2 at S2 H2 hsw
      clear S1 H1 hx hy
      generalize hA : a + i = A at *
      generalize hB : b + i = B at *
      have HA : Hid (a + i = A) := hA
      have HB : Hid (b + i = B) := hB
      clear hA hB
      have e1 : (off + A * 2 = off + B * 2) = False := by simp; omega
      have e2 : (off + A * 2 = off + B * 2 + 1) = False := by simp; omega
      have e3 : (off + A * 2 + 1 = off + B * 2) = False := by simp; omega
      have e4 : (off + A * 2 + 1 = off + B * 2 + 1) = False := by simp; omega
      go_wp2_with fail
      go_big_region_o
      go_wp2
      go_roundg (n - (i + 1))
      case measure => omega
      case rel => exact ⟨i + 1, dk2, by go_num, hlt, Nat.le_refl _, hsw, H2, S2⟩
    · have hltz : ¬ (i : Int) < (n : Int) := by omega
      obtain rfl : i = n := by omega
      go_wp2
      go_end0
      exact ⟨rfl, dk, H1.out, S1.out⟩
end Go.Proofs.YbulkbyweFmt
