import Derived.Test.YbulkbyweFmtCards
import Derived.WalkKit
import Derived.WalkSpells
import Derived.Deep.QuietTactic
import Derived.BigQuiet
import Derived.Shelf.SlSortCmp.KitK
import Derived.Shelf.Lay
import Derived.Ground.SlsfProg
namespace Go.Proofs.YbulkbyweFmt
open Go.Shelf Go.RowKit Go.Lib Go.Sort Go.Proofs

/-- A placed event: its place and its index. -/
def encP (x : Nat × Nat) : List Value := [.int .u64 x.1, .int .i64 x.2]

theorem encP_len (x : Nat × Nat) : (encP x).length = 2 := rfl
theorem encP_one (x : Nat × Nat) : ∀ v ∈ encP x, v.oneCell' = true := by
  intro v hv
  simp [encP] at hv
  rcases hv with rfl | rfl <;> rfl

/-- What byPlace answers. -/
def cmpP (x y : Nat × Nat) : Int := if x.1 < y.1 then -1 else if y.1 < x.1 then 1 else 0

theorem isNaN26 (x : Nat) (w : World) : Calls Ybaf.prog 26 #[.int .u64 x] w fun e w' => e = .returned (.bool false) ∧ w' = w := by
  go_enter Ybaf.func26, Ybaf.ntmps26
  go_wp2
  go_ret
  exact ⟨rfl, rfl⟩

set_option maxHeartbeats 1000000 in
theorem compare15 (x y : Nat) (w : World) : Calls Ybaf.prog 15 #[.int .u64 x, .int .u64 y] w fun e w' => e = .returned (.int .i64 (if x < y then -1 else if y < x then 1 else 0)) ∧ w' = w := by
  have hcon := isNaN26
  by_cases h1 : x < y
  · have h1z : (x : Int) < (y : Int) := by omega
    rw [if_pos h1]
    clear h1
    go_enter Ybaf.func15, Ybaf.ntmps15
    go_wp2_with (go_at_call 26; refine (hcon _ _).mono ?_; rintro e w' ⟨rfl, rfl⟩)
    go_ret
    exact ⟨rfl, rfl⟩
  · rw [if_neg h1]
    by_cases h2 : y < x
    · have h1z : ¬ (x : Int) < (y : Int) := by omega
      have h2z : (y : Int) < (x : Int) := by omega
      rw [if_pos h2]
      clear h1 h2
      go_enter Ybaf.func15, Ybaf.ntmps15
      go_wp2_with (go_at_call 26; refine (hcon _ _).mono ?_; rintro e w' ⟨rfl, rfl⟩)
      go_ret
      exact ⟨rfl, rfl⟩
    · have h1z : ¬ (x : Int) < (y : Int) := by omega
      have h2z : ¬ (y : Int) < (x : Int) := by omega
      rw [if_neg h2]
      clear h1 h2
      go_enter Ybaf.func15, Ybaf.ntmps15
      go_wp2_with (go_at_call 26; refine (hcon _ _).mono ?_; rintro e w' ⟨rfl, rfl⟩)
      go_ret
      exact ⟨rfl, rfl⟩

set_option maxHeartbeats 1000000 in
theorem byPlace14 (x y : Nat × Nat) (W : World) : Calls Ybaf.prog 14 #[.agg #[.int .u64 x.1, .int .i64 x.2], .agg #[.int .u64 y.1, .int .i64 y.2]] W fun e w' => e = .returned (.int .i64 (cmpP x y)) ∧ ∃ q os', w' = grow (W.drewN q) os' := by
  have hcon := fun W' => compare15 x.1 y.1 W'
  change ∀ W', Calls Ybaf.prog 15 _ W' fun e w' => e = .returned (.int .i64 (cmpP x y)) ∧ w' = W' at hcon
  generalize cmpP x y = r at hcon ⊢
  go_enter Ybaf.func14, Ybaf.ntmps14
  go_wp2_with (go_at_call 15; refine (hcon _).mono ?_; rintro e w' ⟨rfl, rfl⟩)
  go_ret
  exact ⟨rfl, 0, _, by rw [alloc_eq_grow, alloc_eq_grow, grow_grow]; rfl⟩

theorem cmpLays14 (blk off size : Nat) (w : World) : CmpLays Ybaf.prog 14 #[] encP 2 cmpP blk off size w :=
  fun _ _ _ _ x y => byPlace14 x y _

theorem enters14 : ∀ args w, (callFunc 14 args).run Ybaf.prog w = .ok (.enter 14 args) w := enters_of Ybaf.func14 (by kernel_rfl) rfl

shelf_lay_g SlLaysF0.n20 Slsf 20 at Ybaf 44 as Ybaf.laysIns

theorem insertion44 (blk off cap a b : Nat) (d : Array (Nat × Nat)) (w : World) (hH : HoldsK encP 2 w blk off d) (hblk : blk < w.heap.size) (hab : a ≤ b) (hb : b ≤ d.size) (hsz : d.size < 4611686018427387904) :
    Calls Ybaf.prog 44 #[.slice (some ⟨blk, off, none⟩) d.size cap, .int .i64 a, .int .i64 b, .func (.func 14) #[] #[]] w fun e w' =>
      e = .returned (.tuple #[]) ∧ SWK encP 2 w blk off (Sort.insertionSort (ltOf cmpP) d a b) w' :=
  AnyQ.insertionSortCmpFunc Ybaf.laysIns 2 Ybaf.isAgg87 Ybaf.sizeOf87 encP encP_len encP_one cmpP 14 #[] blk off cap a b d w enters14 (cmpLays14 blk off d.size w) hH hblk hab hb hsz
end Go.Proofs.YbulkbyweFmt
