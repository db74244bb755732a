import Derived.Test.YbulkbyweFmtUv
namespace Go.Proofs.YbulkbyweFmt
open Go.Shelf Go.RowKit Go.Lib Go.Proofs

set_option maxHeartbeats 400000 in
set_option maxRecDepth 100000 in
theorem uvAt_big (g n c b0 b1 x : Nat) (w : World) (h0 : 128 ≤ b0) (h1 : 128 ≤ b1) (hn0 : 7 < n) (hn1 : n < 4294967296) (hnc : n ≤ c) (hx : x < 18446744073709551616) (hl : (Lib.uvarint x).length + 5 = n)
    (hc0 : w.cell? ⟨g, 5, none⟩ = some (.int .u8 b0)) (hc1 : w.cell? ⟨g, 6, none⟩ = some (.int .u8 b1))
    (hcell : ∀ j (hj : j < (Lib.uvarint x).length), w.cell? ⟨g, 5 + j, none⟩ = some (.int .u8 ((Lib.uvarint x)[j]).toNat)) :
    Calls Ybaf.prog 38 #[.slice (some ⟨g, 0, none⟩) n c, .int .i64 5] w fun e w' => e = .returned (.tuple #[.int .u64 x, .int .i64 n]) ∧ w' = w := by
  have k1 : ¬ (b0 : Int) < 128 := by omega
  have k2 : ¬ (b1 : Int) < 128 := by omega
  obtain ⟨m, hm⟩ : ∃ m, (Lib.uvarint x).length = m := ⟨_, rfl⟩
  have hcon := fun c => Any.binary_Uvarint Ybaf.laysUv g 5 m c (Lib.uvarint x) w hm hcell
  rw [uv_dec hx, hm] at hcon
  have e1 : n - 5 = m := by omega
  have e2 : IntKind.i64.wrap (5 + (m : Int)) = (n : Int) := by rw [IntKind.wrap_i64]; omega
  have e3 : (6 : Int) < (n : Int) := by omega
  have e4 : (5 : Int) < (n : Int) := by omega
  have e5 : (5 : Int) ≤ (n : Int) := by omega
  have e6 : (n : Int) ≤ (c : Int) := by omega
  clear hcell hl hm h0 h1 hx hnc
  go_enter Ybaf.func38, Ybaf.ntmps38
  go_wp2_with (go_at_call 48; refine (hcon _).mono ?_; rintro e w' ⟨rfl, rfl⟩)
  go_ret2
  exact ⟨rfl, rfl⟩
/-- The bytes of an event's record. -/
def dataOf (x : Nat) : List UInt8 := [0, 0, 0, 1, 0] ++ Lib.uvarint x

theorem dataOf_len (x : Nat) : (dataOf x).length = (Lib.uvarint x).length + 5 := by simp [dataOf]

/-- The record lies in block g. -/
def Bytes (w : World) (g x : Nat) : Prop := ∀ j (hj : j < (dataOf x).length), w.cell? ⟨g, j, none⟩ = some (.int .u8 ((dataOf x)[j]).toNat)

theorem Bytes.head {w : World} {g x : Nat} (h : Bytes w g x) : w.cell? ⟨g, 0, none⟩ = some (.int .u8 0) ∧ w.cell? ⟨g, 1, none⟩ = some (.int .u8 0) ∧ w.cell? ⟨g, 2, none⟩ = some (.int .u8 0) ∧ w.cell? ⟨g, 3, none⟩ = some (.int .u8 1) ∧ w.cell? ⟨g, 4, none⟩ = some (.int .u8 0) := by
  have hl := dataOf_len x
  exact ⟨h 0 (by omega), h 1 (by omega), h 2 (by omega), h 3 (by omega), h 4 (by omega)⟩

theorem Bytes.tail {w : World} {g x : Nat} (h : Bytes w g x) : ∀ j (hj : j < (Lib.uvarint x).length), w.cell? ⟨g, 5 + j, none⟩ = some (.int .u8 ((Lib.uvarint x)[j]).toNat) := by
  intro j hj
  have := h (5 + j) (by have := dataOf_len x; omega)
  rw [this]
  congr 3
  simp only [dataOf]
  rw [List.getElem_append_right (by simp)]
  simp

theorem uvAt_tail (g n c x : Nat) (w : World) (hx : x < 18446744073709551616) (hn : (dataOf x).length = n) (hnc : n ≤ c) (hB : Bytes w g x) :
    Calls Ybaf.prog 38 #[.slice (some ⟨g, 0, none⟩) n c, .int .i64 5] w fun e w' => e = .returned (.tuple #[.int .u64 x, .int .i64 n]) ∧ ∃ q, w' = w.drewN q := by
  have hl := dataOf_len x
  have ht := hB.tail
  have h10 := Lib.uvarint_length64 hx
  by_cases c1 : x < 128
  · have e := uvarint_small c1
    have hu : (Lib.uvarint x).length = 1 := by rw [e]; rfl
    have h0 := ht 0 (by omega)
    simp only [e, List.getElem_cons_zero] at h0
    rw [show x.toUInt8.toNat = x % 256 from UInt8.toNat_ofNat', Nat.mod_eq_of_lt (by omega)] at h0
    refine (uvAt_small g n c 5 x w c1 (by omega) (by omega) h0).mono ?_
    rintro e w' ⟨rfl, rfl⟩
    have hn6 : n = 6 := by omega
    subst hn6
    exact ⟨rfl, 0, rfl⟩
  · have e := uvarint_big (show 128 ≤ x by omega)
    have hp := uvarint_pos (x / 128)
    have hu : (Lib.uvarint x).length = (Lib.uvarint (x / 128)).length + 1 := by rw [e]; rfl
    have h0 := ht 0 (by omega)
    have h1 := ht 1 (by omega)
    simp only [e, List.getElem_cons_zero, List.getElem_cons_succ] at h0 h1
    rw [show (x % 128 + 128).toUInt8.toNat = (x % 128 + 128) % 256 from UInt8.toNat_ofNat', Nat.mod_eq_of_lt (by omega)] at h0
    by_cases c2 : x < 16384
    · have e2 := uvarint_small (show x / 128 < 128 by omega)
      have hu2 : (Lib.uvarint (x / 128)).length = 1 := by rw [e2]; rfl
      simp only [e2, List.getElem_cons_zero] at h1
      rw [show (x / 128).toUInt8.toNat = (x / 128) % 256 from UInt8.toNat_ofNat', Nat.mod_eq_of_lt (by omega)] at h1
      have hn7 : n = 7 := by omega
      refine (uvAt_two g n c _ _ x w rfl rfl c2 hn7 h0 h1).mono ?_
      rintro e w' ⟨rfl, q, rfl⟩
      subst hn7
      exact ⟨rfl, q, rfl⟩
    · have e2 := uvarint_big (show 128 ≤ x / 128 by omega)
      have hp2 := uvarint_pos (x / 128 / 128)
      have hu2 : (Lib.uvarint (x / 128)).length = (Lib.uvarint (x / 128 / 128)).length + 1 := by rw [e2]; rfl
      simp only [e2, List.getElem_cons_zero] at h1
      rw [show (x / 128 % 128 + 128).toUInt8.toNat = (x / 128 % 128 + 128) % 256 from UInt8.toNat_ofNat', Nat.mod_eq_of_lt (by omega)] at h1
      refine (uvAt_big g n c _ _ x w (by omega) (by omega) (by omega) (by omega) hnc hx (by omega) h0 h1 ht).mono ?_
      rintro e w' ⟨rfl, rfl⟩
      exact ⟨rfl, 0, rfl⟩

set_option maxHeartbeats 400000 in
set_option maxRecDepth 100000 in
theorem whereFits32 (g n c : Nat) (w : World) (hn : 3 ≤ n) (h0 : w.cell? ⟨g, 0, none⟩ = some (.int .u8 0)) (h1 : w.cell? ⟨g, 1, none⟩ = some (.int .u8 0)) (h2 : w.cell? ⟨g, 2, none⟩ = some (.int .u8 0)) :
    Calls Ybaf.prog 32 #[.slice (some ⟨g, 0, none⟩) n c] w fun e w' => e = .returned (.int .i64 3) ∧ ∃ q, w' = w.drewN q := by
  have mixed := Ybaf.laysUv.mixed
  have e0 : (3 : Int) ≤ (n : Int) := by omega
  have e1 : (0 : Int) < (n : Int) := by omega
  have e2 : (1 : Int) < (n : Int) := by omega
  have e3 : (2 : Int) < (n : Int) := by omega
  go_enter Ybaf.func32, Ybaf.ntmps32
  go_wp2_with fail
  go_quiet (fail)
  go_wp2
  go_ret
  exact ⟨rfl, _, rfl⟩
end Go.Proofs.YbulkbyweFmt
