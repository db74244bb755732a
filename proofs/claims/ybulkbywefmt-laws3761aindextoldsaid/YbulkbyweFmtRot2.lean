import Derived.Test.YbulkbyweFmtRotP
namespace Go.Proofs.YbulkbyweFmt
open Go.Shelf Go.RowKit Go.Lib Go.Sort Go.Proofs

set_option maxHeartbeats 1000000 in
set_option maxRecDepth 1000000 in
theorem rotate54 (blk off cap a m b : Nat) (d0 d : Array (Nat × Nat)) (w0 w : World) (R : RowK encP 2 w0 blk off d0) (hs : d0.size = d.size) (S : SWK encP 2 w0 blk off d w)
    (ham : a < m) (hmb : m < b) (hb : b ≤ d.size) (hsz : d.size < 4611686018427387904) :
    Calls Ybaf.prog 54 #[.slice (some ⟨blk, off, none⟩) d.size cap, .int .i64 a, .int .i64 m, .int .i64 b, .func (.func 14) #[] #[]] w fun e w' =>
      e = .returned (.tuple #[]) ∧ ∃ d', RotR d d' a m b ∧ SWK encP 2 w0 blk off d' w' := by
  have mixed := Ybaf.laysIns.mixed
  have S0 : Aside (SWK encP 2 w0 blk off d w) := S
  clear S
  have hcon : ∀ (a b n : Nat) (dk : Array (Nat × Nat)) (w : World), dk.size = d.size → SWK encP 2 w0 blk off dk w → a + n ≤ b → b + n ≤ dk.size →
      Calls Ybaf.prog 57 #[.slice (some ⟨blk, off, none⟩) d.size cap, .int .i64 a, .int .i64 b, .int .i64 n, .func (.func 14) #[] #[]] w fun e w' =>
        e = .returned (.tuple #[]) ∧ ∃ d', SwR dk d' a b n ∧ SWK encP 2 w0 blk off d' w' := fun a b n dk w hds S hab hb => by
    rw [← hds]; exact swapRange57 blk off cap a b n d0 dk w0 w R (by omega) S hab hb (by omega)
  have CON : Aside _ := hcon
  clear hcon
  have ra : IntKind.i64.wrap ((m : Int) - (a : Int)) = ((m - a : Nat) : Int) := by rw [IntKind.wrap_i64]; omega
  have rb : IntKind.i64.wrap ((b : Int) - (m : Int)) = ((b - m : Nat) : Int) := by rw [IntKind.wrap_i64]; omega
  go_enter Ybaf.func54, Ybaf.ntmps54
  go_wp2
  go_loopg [10, 11] (b - a) (fun kx s10 s11 wr => ∃ (i j : Nat) (dk : Array (Nat × Nat)), s10 = .int .i64 i ∧ s11 = .int .i64 j ∧ 0 < i ∧ 0 < j ∧ i ≤ m - a ∧ j ≤ b - m ∧ i + j ≤ kx ∧ dk.size = d.size ∧
    Aside (∀ d', RotR dk d' (m - i) m (m + j) → RotR d d' a m b) ∧ Aside (SWK encP 2 w0 blk off dk wr))
  case atStart => exact ⟨m - a, b - m, d, by go_num, by go_num, by omega, by omega, by omega, by omega, by omega, rfl, fun d' h => by rw [show m - (m - a) = a by omega, show m + (b - m) = b by omega] at h; exact h, S0⟩
  case round =>
    clear S0
    obtain ⟨i, j, dk, rfl, rfl, hi, hj, him, hjm, hkx, hds, H1, S1⟩ := hrel
    have rmi : IntKind.i64.wrap ((m : Int) - (i : Int)) = ((m - i : Nat) : Int) := by rw [IntKind.wrap_i64]; omega
    by_cases hij : i = j
    · subst hij
      go_wp2_with (go_at_call 57; refine (CON.out (m - i) m i dk _ hds S1.out (by omega) (by omega)).mono ?_; rintro e w' ⟨rfl, d1, HS, S2⟩)
      go_end0
      exact ⟨rfl, d1, H1.out d1 (RotR.last HS (by omega)), S2⟩
    · by_cases hlt : j < i
      · have hne : ((i : Int) == (j : Int)) = false := by simp; omega
        have hgt : (j : Int) < (i : Int) := by omega
        have rij : IntKind.i64.wrap ((i : Int) - (j : Int)) = ((i - j : Nat) : Int) := by rw [IntKind.wrap_i64]; omega
        go_wp2_with (go_at_call 57; refine (CON.out (m - i) m j dk _ hds S1.out (by omega) (by omega)).mono ?_; rintro e w' ⟨rfl, d1, HS, S2⟩)
        go_roundg (i - j + j)
        case measure => omega
        case rel => exact ⟨i - j, j, d1, by go_num, rfl, by omega, hj, by omega, hjm, Nat.le_refl _, HS.1.trans hds, fun d' h => H1.out d' (RotR.left HS (by omega) hlt h), S2⟩
      · have hne : ((i : Int) == (j : Int)) = false := by simp; omega
        have hgt : ¬ (j : Int) < (i : Int) := by omega
        have rij : IntKind.i64.wrap ((j : Int) - (i : Int)) = ((j - i : Nat) : Int) := by rw [IntKind.wrap_i64]; omega
        have rmj : IntKind.i64.wrap ((m : Int) + (j : Int)) = (m : Int) + (j : Int) := by rw [IntKind.wrap_i64]; omega
        obtain ⟨q, hq⟩ : ∃ q, m + j - i = q := ⟨_, rfl⟩
        have rmji : IntKind.i64.wrap ((m : Int) + (j : Int) - (i : Int)) = (q : Int) := by rw [IntKind.wrap_i64]; omega
        have HQ : Hid (m + j - i = q) := hq
        clear hq
        go_wp2_with (go_at_call 57; refine (CON.out (m - i) q i dk _ hds S1.out (by have := HQ.out; omega) (by have := HQ.out; omega)).mono ?_; rintro e w' ⟨rfl, d1, HS, S2⟩)
        rw [← HQ.out] at HS
        go_roundg (i + (j - i))
        case measure => omega
        case rel => exact ⟨i, j - i, d1, rfl, by go_num, hi, by omega, him, by omega, Nat.le_refl _, HS.1.trans hds, fun d' h => H1.out d' (RotR.right HS (by omega) (by omega) h), S2⟩
end Go.Proofs.YbulkbyweFmt
