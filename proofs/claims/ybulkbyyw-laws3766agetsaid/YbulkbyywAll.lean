import Derived.Test.YbulkbyywHitWait
namespace Go.Proofs.Ybulkbyyw
open Go.RowKit

theorem first_or (p : Nat → Prop) [DecidablePred p] (k : Nat) : (∀ i, i < k → ¬ p i) ∨ ∃ i0, i0 < k ∧ p i0 ∧ ∀ i, i < i0 → ¬ p i := by
  induction k with
  | zero => exact .inl fun i hi => by omega
  | succ k ih =>
    rcases ih with h | ⟨i0, h1, h2, h3⟩
    · by_cases hp : p k
      · exact .inr ⟨k, by omega, hp, h⟩
      · exact .inl fun i hi => by
          by_cases e : i = k
          · subst e; exact hp
          · exact h i (by omega)
    · exact .inr ⟨i0, by omega, h2, h3⟩

set_option maxRecDepth 100000 in
/-- More than 300 segments: nothing is done. -/
theorem law_long (a0 : Option Addr) (k c0 : Nat) (v1 v2 v3 v4 : Value) (w : World) (hk : 300 < k) (hm : k ≤ maxLen) :
    Calls Yba.prog 3 #[.slice a0 k c0, v1, v2, v3, v4] w fun e w' => e = .returned (.bool true) ∧ Below w.heap.size w w' := by
  unfold maxLen at hm
  have h1 : (300 : Int) < (k : Int) := by omega
  go_enter Yba.func3, Yba.ntmps3
  go_wp2
  go_ret
  exact ⟨rfl, Below.refl _ _⟩

theorem law_all (a0 : Option Addr) (k c0 b0 o0 g : Nat) (sel pv : Int) (wp : Bool) (sa : Nat → Option Addr) (sl sc bb oo : Nat → Nat) (fi ni : Nat → Int) (xi : Nat → Nat → Int) (w : World) (hk : k ≤ 300) (hsel : 0 ≤ sel ∧ sel ≤ 255) (hg : g ≤ 255)
    (hin : Inp w a0 k c0 b0 o0 sa sl sc bb oo fi ni xi) :
    Calls Yba.prog 3 #[.slice a0 k c0, .int .u8 sel, .int .u8 (g : Int), .bool wp, .int .i64 pv] w fun e w' => e = .returned (.bool true) ∧ Below w.heap.size w w' := by
  obtain ⟨c, hc⟩ : ∃ c : Nat, sel % 8 + 1 = (c : Int) := ⟨(sel % 8 + 1).toNat, by omega⟩
  have hc1 : 1 ≤ c := by omega
  have hc8 : c ≤ 8 := by omega
  have bN : ∀ i, 0 ≤ ni i % ((c : Int) + 1) ∧ ni i % ((c : Int) + 1) ≤ c := fun i => by
    have b1 := Int.emod_nonneg (ni i) (show (c : Int) + 1 ≠ 0 by omega)
    have b2 := Int.emod_lt_of_pos (ni i) (show 0 < (c : Int) + 1 by omega)
    omega
  have bF : ∀ i, 0 ≤ fi i % (c : Int) ∧ fi i % (c : Int) < c := fun i => by
    have b1 := Int.emod_nonneg (fi i) (show (c : Int) ≠ 0 by omega)
    have b2 := Int.emod_lt_of_pos (fi i) (show 0 < (c : Int) by omega)
    omega
  have miss : (hsum (fun i => ni i % ((c : Int) + 1)) k ≤ 0 ∨ ∀ i, i < k → (fun i => ni i % ((c : Int) + 1)) ((g + i) % k) = 0) → Calls Yba.prog 3 #[.slice a0 k c0, .int .u8 sel, .int .u8 (g : Int), .bool wp, .int .i64 pv] w fun e w' => e = .returned (.bool true) ∧ Below w.heap.size w w' := by
    intro hno
    cases wp with
    | false => exact law_miss_plain a0 k c c0 b0 o0 w.heap.size g sel pv sa sl sc bb oo fi ni xi (fun i => fi i % (c : Int)) (fun i => ni i % ((c : Int) + 1)) (fun i j => if j < sl i then xi i j else (i : Int) * 100 + (j : Int) + 1) w hk hsel hc hg rfl hin (fun _ _ => rfl) (fun _ _ => rfl) (fun _ _ _ _ => rfl) hno
    | true => exact law_miss_wait a0 k c c0 b0 o0 w.heap.size g sel pv sa sl sc bb oo fi ni xi (fun i => fi i % (c : Int)) (fun i => ni i % ((c : Int) + 1)) (fun i j => if j < sl i then xi i j else (i : Int) * 100 + (j : Int) + 1) w hk hsel hc hg rfl hin (fun _ _ => rfl) (fun _ _ => rfl) (fun _ _ _ _ => rfl) hno
  by_cases hs : hsum (fun i => ni i % ((c : Int) + 1)) k ≤ 0
  · exact miss (.inl hs)
  · rcases first_or (fun i => ¬ ni ((g + i) % k) % ((c : Int) + 1) = 0) k with h | ⟨i0, hi0, hp, hno⟩
    · exact miss (.inr fun i hi => Classical.not_not.1 (h i hi))
    · obtain ⟨a, ea⟩ : ∃ a, (g + i0) % k = a := ⟨_, rfl⟩
      rw [ea] at hp
      have b1 := bN a
      have b2 := bF a
      have hf0 : fi a % (c : Int) = ((fi a % (c : Int)).toNat : Int) := by omega
      have hn1 : ni a % ((c : Int) + 1) - 1 = ((ni a % ((c : Int) + 1) - 1).toNat : Int) := by omega
      cases wp with
      | false => exact law_hit_plain a0 k c c0 b0 o0 w.heap.size g sel pv sa sl sc bb oo fi ni xi (fun i => fi i % (c : Int)) (fun i => ni i % ((c : Int) + 1)) (fun i j => if j < sl i then xi i j else (i : Int) * 100 + (j : Int) + 1) w hk hsel hc hg rfl hin (fun _ _ => rfl) (fun _ _ => rfl) (fun _ _ _ _ => rfl) i0 a (fi a % (c : Int)).toNat (((fi a % (c : Int)).toNat + 1) % c) (ni a % ((c : Int) + 1)) (by omega) hi0 (fun i hi => Classical.not_not.1 (hno i hi)) ea hf0 (by omega) rfl (by omega) (by omega) rfl
      | true => exact law_hit_wait a0 k c c0 b0 o0 w.heap.size g sel pv sa sl sc bb oo fi ni xi (fun i => fi i % (c : Int)) (fun i => ni i % ((c : Int) + 1)) (fun i j => if j < sl i then xi i j else (i : Int) * 100 + (j : Int) + 1) w hk hsel hc hg rfl hin (fun _ _ => rfl) (fun _ _ => rfl) (fun _ _ _ _ => rfl) i0 a (fi a % (c : Int)).toNat (((fi a % (c : Int)).toNat + 1) % c) (ni a % ((c : Int) + 1)) (by omega) hi0 (fun i hi => Classical.not_not.1 (hno i hi)) ea hf0 (by omega) rfl (by omega) (by omega) rfl _ (ni a % ((c : Int) + 1) - 1).toNat hn1 (by omega) rfl
end Go.Proofs.Ybulkbyyw
