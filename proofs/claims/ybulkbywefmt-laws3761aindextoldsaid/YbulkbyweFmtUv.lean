import Derived.Test.YbulkbyweFmtCards
import Derived.WalkKit
import Derived.WalkSpells
import Derived.Deep.QuietTactic
import Derived.BigQuiet
import Derived.Shelf.Lay
import Derived.Shelf.Bin.Uvarint
import Derived.Shelf.Bin.AppendUvarint
import Derived.Ground.NamesProg
namespace Go.Proofs.YbulkbyweFmt
open Go.Shelf Go.RowKit Go.Lib Go.Proofs

/-- The bytes of a number: all but the last have their high bit. -/
theorem uv_head (x : Nat) : ∀ j (hj : j + 1 < (Lib.uvarint x).length), 128 ≤ ((Lib.uvarint x)[j]'(by omega)).toNat := by
  induction x using Nat.strongRecOn with
  | _ x ih =>
    intro j hj
    by_cases h : x < 128
    · simp only [uvarint_small h, List.length_singleton] at hj; omega
    · have e := uvarint_big (show 128 ≤ x by omega)
      simp only [e, List.length_cons] at hj
      simp only [e]
      match j, hj with
      | 0, _ => simp only [List.getElem_cons_zero]; rw [show (x % 128 + 128).toUInt8.toNat = (x % 128 + 128) % 256 from UInt8.toNat_ofNat']; omega
      | j + 1, hj => simp only [List.getElem_cons_succ]; exact ih (x / 128) (by omega) j (by omega)

theorem uv_last (x : Nat) : ∀ j (hj : j + 1 = (Lib.uvarint x).length), ((Lib.uvarint x)[j]'(by omega)).toNat < 128 := by
  induction x using Nat.strongRecOn with
  | _ x ih =>
    intro j hj
    by_cases h : x < 128
    · simp only [uvarint_small h, List.length_singleton] at hj ⊢
      obtain rfl : j = 0 := by omega
      simp only [List.getElem_cons_zero]; rw [show x.toUInt8.toNat = x % 256 from UInt8.toNat_ofNat']; omega
    · have e := uvarint_big (show 128 ≤ x by omega)
      have hp := uvarint_pos (x / 128)
      simp only [e, List.length_cons] at hj
      simp only [e]
      match j, hj with
      | 0, hj => omega
      | j + 1, hj => simp only [List.getElem_cons_succ]; exact ih (x / 128) (by omega) j (by omega)

theorem uv_from (x : Nat) : ∀ (i acc : Nat), i ≤ 9 → x < 2 ^ (64 - 7 * i) → Lib.uvarintFrom i acc (Lib.uvarint x) = (acc + x * 2 ^ (7 * i), ((i + (Lib.uvarint x).length : Nat) : Int)) := by
  induction x using Nat.strongRecOn with
  | _ x ih =>
    intro i acc hi hx
    by_cases h : x < 128
    · rw [uvarint_small h, Lib.uvarintFrom, if_neg (by omega)]
      rw [show x.toUInt8.toNat = x % 256 from UInt8.toNat_ofNat', Nat.mod_eq_of_lt (by omega), if_pos h, if_neg]
      · simp
      · rintro ⟨rfl, h2⟩; simp at hx; omega
    · have hi9 : i ≠ 9 := by rintro rfl; simp at hx; omega
      rw [uvarint_big (by omega), Lib.uvarintFrom, if_neg (by omega)]
      rw [show (x % 128 + 128).toUInt8.toNat = (x % 128 + 128) % 256 from UInt8.toNat_ofNat', Nat.mod_eq_of_lt (by omega), if_neg (by omega)]
      rw [ih (x / 128) (by omega) (i + 1) _ (by omega) (by
        have : 64 - 7 * i = (64 - 7 * (i + 1)) + 7 := by omega
        rw [this, Nat.pow_add] at hx
        exact Nat.div_lt_of_lt_mul (by rw [Nat.mul_comm]; exact hx))]
      have e : 2 ^ (7 * (i + 1)) = 128 * 2 ^ (7 * i) := by rw [show 7 * (i + 1) = 7 + 7 * i by omega, Nat.pow_add]
      refine Prod.ext ?_ ?_
      · simp only [e]
        have := Nat.div_add_mod x 128
        generalize 2 ^ (7 * i) = p
        have e2 : x * p = 128 * (x / 128) * p + x % 128 * p := by rw [← Nat.add_mul, this]
        have e3 : x / 128 * (128 * p) = 128 * (x / 128) * p := by rw [← Nat.mul_assoc, Nat.mul_comm (x / 128)]
        rw [e2, e3, show (x % 128 + 128) % 128 = x % 128 by omega]
        omega
      · simp only [List.length_cons]; omega

theorem uv_dec {x : Nat} (hx : x < 18446744073709551616) : Lib.uvarintDec (Lib.uvarint x) = (x, ((Lib.uvarint x).length : Int)) := by
  have := uv_from x 0 0 (by omega) (by simpa using hx)
  simpa [Lib.uvarintDec] using this

shelf_lay LaysBin.n45 Mn 45 at Ybaf as Ybaf.laysUv

set_option maxHeartbeats 400000 in
theorem uvAt_small (g n c pos b : Nat) (w : World) (hb : b < 128) (hpos : pos < n) (hn : n < 4294967296) (hc : w.cell? ⟨g, pos, none⟩ = some (.int .u8 b)) :
    Calls Ybaf.prog 38 #[.slice (some ⟨g, 0, none⟩) n c, .int .i64 pos] w fun e w' => e = .returned (.tuple #[.int .u64 b, .int .i64 ((pos + 1 : Nat) : Int)]) ∧ w' = w := by
  have h1 : (b : Int) < 128 := by omega
  have h2 : (pos : Int) < (n : Int) := by omega
  go_enter Ybaf.func38, Ybaf.ntmps38
  go_wp2
  go_ret2
  exact ⟨rfl, rfl⟩

set_option maxHeartbeats 1000000 in
theorem uvAt_two (g n c b0 b1 x : Nat) (w : World) (h0 : b0 = x % 128 + 128) (h1 : b1 = x / 128) (hx : x < 16384) (hn : n = 7)
    (hc0 : w.cell? ⟨g, 5, none⟩ = some (.int .u8 b0)) (hc1 : w.cell? ⟨g, 6, none⟩ = some (.int .u8 b1)) :
    Calls Ybaf.prog 38 #[.slice (some ⟨g, 0, none⟩) n c, .int .i64 5] w fun e w' => e = .returned (.tuple #[.int .u64 x, .int .i64 (7 : Int)]) ∧ ∃ q, w' = w.drewN q := by
  have mixed := Ybaf.laysUv.mixed
  have k1 : ¬ (b0 : Int) < 128 := by omega
  have k2 : (b1 : Int) < 128 := by omega
  have H : Hid (b0 = x % 128 + 128 ∧ b1 = x / 128) := ⟨h0, h1⟩
  subst hn
  have e1 : bits BinOp.and IntKind.u8 (b0 : Int) 127 = ((x % 128 : Nat) : Int) := by
    have := u8_and127 (x := (b0 : Int)) (by omega) (by omega)
    rw [this]; omega
  have e2 : IntKind.u64.wrap ((x % 128 : Nat) : Int) = ((x % 128 : Nat) : Int) := by rw [IntKind.wrap_u64]; omega
  have e3 : bits BinOp.or IntKind.u64 ((x % 128 : Nat) : Int) ((b1 : Int) * 128) = (x : Int) := by
    rw [show (b1 : Int) * 128 = ((x / 128 * 128 : Nat) : Int) by omega, bits_or_u64_nat _ _ (by omega) (by omega)]
    have : x / 128 * 128 ||| x % 128 = x := by
      have h := Nat.shiftLeft_add_eq_or_of_lt (b := x % 128) (i := 7) (by omega) (x / 128)
      rw [Nat.shiftLeft_eq] at h
      rw [← h]; omega
    rw [Nat.or_comm, this]
  obtain ⟨y, hy⟩ : ∃ y, x % 128 = y := ⟨_, rfl⟩
  rw [hy] at e1 e2 e3
  clear h0 h1 hy
  go_enter Ybaf.func38, Ybaf.ntmps38
  go_wp2_with fail
  go_quiet (fail)
  go_wp2
  go_ret2
  exact ⟨rfl, _, rfl⟩

end Go.Proofs.YbulkbyweFmt
