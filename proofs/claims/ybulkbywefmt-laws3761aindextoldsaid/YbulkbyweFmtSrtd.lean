import Derived.Test.YbulkbyweFmtStab
import Derived.Test.YbulkbyweFmtSym
namespace Go.Proofs.YbulkbyweFmt
open Go.Shelf Go.RowKit Go.Lib Go.Sort Go.Proofs

theorem sorted_adj (d : Array (Nat × Nat)) : ∀ (n : Nat), (∀ t, 0 < t → t < n → lexB d[t]! d[t - 1]! = false) → SortedIn lexB 0 n d
  | 0, _ => fun i j => by omega
  | n + 1, h => by
    by_cases c : n = 0
    · subst c; intro i j; omega
    · exact SortedIn.snoc lexB_swo (sorted_adj d n fun t h1 h2 => h t h1 (by omega)) (h n (by omega) (by omega))

/-- What IsSortedFunc tells. -/
def Told16 (blk off n : Nat) (d0 : Array (Nat × Nat)) (w0 : World) (e : Ending) (w' : World) : Prop :=
  ∃ bb : Bool, e = .returned (.bool bb) ∧ (bb = true → SortedIn lexB 0 n d0) ∧ SWK encP 2 w0 blk off d0 w'

set_option maxHeartbeats 1000000 in
set_option maxRecDepth 1000000 in
theorem isSorted16 (blk off cap n : Nat) (d0 : Array (Nat × Nat)) (w0 : World) (R : RowK encP 2 w0 blk off d0) (hn : d0.size = n) (hsz : n < 1152921504606846976) (hi : ∀ t, t < d0.size → (d0[t]!).2 = t) :
    Calls Ybaf.prog 16 #[.slice (some ⟨blk, off, none⟩) n cap, .func (.func 14) #[] #[]] w0 (Told16 blk off n d0 w0) := by
  have mixed := Ybaf.laysIns.mixed
  have eg := enters14
  have HI : Aside _ := hi
  have S0 : Aside (SWK encP 2 w0 blk off d0 w0) := SWK.start R.hH
  have HN : Hid (d0.size = n) := hn
  clear hi
  by_cases h0 : n = 0
  · subst h0
    go_enter Ybaf.func16, Ybaf.ntmps16
    go_wp2
    go_loopg [5] 1 (fun _ s5 wr => s5 = .int .i64 (-1) ∧ wr = w0)
    case atStart => exact ⟨rfl, rfl⟩
    case round =>
      obtain ⟨rfl, rfl⟩ := hrel
      go_wp2
      go_ret
      exact ⟨true, rfl, fun _ i j => by omega, S0.out⟩
  · obtain ⟨q, hq⟩ : ∃ q, n - 1 = q := ⟨_, rfl⟩
    have rq : IntKind.i64.wrap ((n : Int) - 1) = (q : Int) := by rw [IntKind.wrap_i64]; omega
    go_enter Ybaf.func16, Ybaf.ntmps16
    go_wp2
    go_loopg [5] n (fun kx s5 wr => ∃ i : Nat, s5 = .int .i64 i ∧ i < n ∧ i ≤ kx ∧ Aside (∀ t, i < t → t < n → lexB d0[t]! d0[t - 1]! = false) ∧ Aside (SWK encP 2 w0 blk off d0 wr))
    case atStart => exact ⟨q, rfl, by omega, by omega, fun t _ _ => by omega, S0⟩
    case round =>
      clear S0
      obtain ⟨i, rfl, hin, hkx, I, S1⟩ := hrel
      by_cases hlt : 0 < i
      · have hltz : (0 : Int) < (i : Int) := by omega
        obtain ⟨j, hj⟩ : ∃ j, i - 1 = j := ⟨_, rfl⟩
        have rj : IntKind.i64.wrap ((i : Int) - 1) = (j : Int) := by rw [IntKind.wrap_i64]; omega
        have HJ : Hid (i - 1 = j) := hj
        have pj : (0 : Int) ≤ (j : Int) := by omega
        have hjn : j < n := by omega
        have c1 := swk_cells S1.out R rfl i (by omega)
        have c2 := swk_cells S1.out R rfl j (by omega)
        have c1a := fun n os => (c1 n os).1
        have c1b := fun n os => (c1 n os).2
        have c2a := fun n os => (c2 n os).1
        have c2b := fun n os => (c2 n os).2
        have hcm := fun n os => cmp_grown d0[i]! d0[j]! wr n os
        have hx : (d0[j]!).2 < (d0[i]!).2 := by rw [HI.out j (by omega), HI.out i (by omega)]; omega
        have b1 : (i : Int) < (n : Int) := by omega
        have b2 : (j : Int) < (n : Int) := by omega
        clear hj
        by_cases hlv : cmpP d0[i]! d0[j]! < 0
        · clear c1 c2 hx
          generalize cmpP d0[i]! d0[j]! = r at hcm hlv
          generalize (d0[i]!).1 = x1 at c1a hcm
          generalize (d0[i]!).2 = x2 at c1b hcm
          generalize (d0[j]!).1 = y1 at c2a hcm
          generalize (d0[j]!).2 = y2 at c2b hcm
          go_wp2_with fail
          go_quiet_grown (first | (go_at_fn 14; refine hcm _ _))
          have S2 : Aside (SWK encP 2 w0 blk off d0 (grow (wr.drewN nq) osq)) := S1.out.grown nq osq
          clear c1a c1b c2a c2b hcm S1
          generalize grow (wr.drewN nq) osq = w2 at S2 ⊢
          clear nq osq
          go_wp2
          go_ret
          exact ⟨false, rfl, fun h => absurd h (by simp), S2.out⟩
        · have L : Hid (lexB d0[i]! d0[j]! = false) := by
            cases hb : lexB d0[i]! d0[j]!
            · rfl
            · exact absurd ((cmpP_lt hx).2 hb) hlv
          clear c1 c2 hx
          generalize cmpP d0[i]! d0[j]! = r at hcm hlv
          generalize (d0[i]!).1 = x1 at c1a hcm
          generalize (d0[i]!).2 = x2 at c1b hcm
          generalize (d0[j]!).1 = y1 at c2a hcm
          generalize (d0[j]!).2 = y2 at c2b hcm
          go_wp2_with fail
          go_quiet_grown (first | (go_at_fn 14; refine hcm _ _))
          have S2 : Aside (SWK encP 2 w0 blk off d0 (grow (wr.drewN nq) osq)) := S1.out.grown nq osq
          clear c1a c1b c2a c2b hcm S1
          generalize grow (wr.drewN nq) osq = w2 at S2 ⊢
          clear nq osq
          go_wp2
          go_roundg j
          case measure => have := HJ.out; omega
          case rel => exact ⟨j, by go_num, hjn, Nat.le_refl _, fun t h1 h2 => by
            have e := HJ.out
            by_cases c : t = i
            · subst c; rw [e]; exact L.out
            · exact I.out t (by omega) h2, S2⟩
      · have hltz : ¬ (0 : Int) < (i : Int) := by omega
        obtain rfl : i = 0 := by omega
        go_wp2
        go_ret
        exact ⟨true, rfl, fun _ => sorted_adj d0 n fun t h1 h2 => I.out t h1 h2, S1.out⟩

set_option maxHeartbeats 1000000 in
theorem sort17_of (blk off cap n : Nat) (d0 : Array (Nat × Nat)) (w0 : World)
    (IH : Calls Ybaf.prog 27 #[.slice (some ⟨blk, off, none⟩) n cap, .int .i64 n, .func (.func 14) #[] #[]] w0 fun e w' =>
      e = .returned (.tuple #[]) ∧ Done blk off w0 0 n d0 w') :
    Calls Ybaf.prog 17 #[.slice (some ⟨blk, off, none⟩) n cap, .func (.func 14) #[] #[]] w0 fun e w' =>
      e = .returned (.tuple #[]) ∧ Done blk off w0 0 n d0 w' := by
  go_enter Ybaf.func17, Ybaf.ntmps17
  go_wp2_with (go_at_call 27; refine IH.mono ?_; rintro e w' ⟨rfl, D⟩)
  go_end0
  exact ⟨rfl, D⟩
end Go.Proofs.YbulkbyweFmt
