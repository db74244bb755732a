import Derived.Test.YbulkbyweFmtSeek
import Derived.Test.YbulkbyweFmtGet
namespace Go.Proofs.YbulkbyweFmt
open Go.Shelf Go.RowKit Go.Lib Go.Proofs

/-- Where a timeline lies: its struct, its rows, its blocks. -/
structure TD where
  t : Nat
  h : Nat
  n : Nat
  bb : Nat
  bc : Nat
  sb : Nat
  sc : Nat
  sk : Bool
  blk : Nat → Nat
  bi : Nat → Nat
  bd : Nat → Nat
  bm : Nat → Nat
  nn : Nat → Nat
  cd : Nat → Nat
  ps : Nat → Nat

/-- The timeline lies so in w, in blocks below N. -/
structure TL (d : TD) (w : World) (N : Nat) : Prop where
  host : w.cell? ⟨d.t, 0, none⟩ = some (.int .i32 d.h)
  blocks : w.cell? ⟨d.t, 1, none⟩ = some (.slice (some ⟨d.bb, 0, none⟩) d.n d.bc)
  starts : w.cell? ⟨d.t, 2, none⟩ = some (.slice (some ⟨d.sb, 0, none⟩) d.n d.sc)
  n_ : w.cell? ⟨d.t, 3, none⟩ = some (.int .i64 d.n)
  skips : w.cell? ⟨d.t, 4, none⟩ = some (.bool d.sk)
  bs : ∀ i, i < d.n → w.cell? ⟨d.bb, i, none⟩ = some (.pointer (some ⟨d.blk i, 0, none⟩))
  ss : ∀ i, i < d.n → w.cell? ⟨d.sb, i, none⟩ = some (.int .i64 i)
  bk : ∀ i, i < d.n → Blk w (d.blk i) i d.h (d.ps i) (d.bi i) (d.bd i) (d.bm i) (d.nn i) (d.cd i)
  inj : ∀ i j, i < d.n → j < d.n → d.blk i = d.blk j → i = j
  ltT : d.t < N ∧ d.bb < N ∧ d.sb < N
  ltB : ∀ i, i < d.n → d.blk i < N ∧ d.bi i < N ∧ d.bd i < N ∧ d.bm i < N
  neT : d.t ≠ d.bb ∧ d.t ≠ d.sb
  neB : ∀ i, i < d.n → d.t ≠ d.blk i ∧ d.t ≠ d.bi i ∧ d.t ≠ d.bd i ∧ d.t ≠ d.bm i
  hh : d.h = 0 ∨ d.h = 1
  n1 : 1 ≤ d.n
  n2 : d.n ≤ 512

theorem TL.fr {X : Nat → Prop} {d : TD} {w w' : World} {N : Nat} (T : TL d w N) (f : Fr X w w') (hX : ∀ k, k < N → ¬ X k) : TL d w' N where
  host := f.cell T.host (hX _ T.ltT.1)
  blocks := f.cell T.blocks (hX _ T.ltT.1)
  starts := f.cell T.starts (hX _ T.ltT.1)
  n_ := f.cell T.n_ (hX _ T.ltT.1)
  skips := f.cell T.skips (hX _ T.ltT.1)
  bs := fun i hi => f.cell (T.bs i hi) (hX _ T.ltT.2.1)
  ss := fun i hi => f.cell (T.ss i hi) (hX _ T.ltT.2.2)
  bk := fun i hi => (T.bk i hi).fr f (hX _ (T.ltB i hi).1) (hX _ (T.ltB i hi).2.1) (hX _ (T.ltB i hi).2.2.1) (hX _ (T.ltB i hi).2.2.2)
  inj := T.inj
  ltT := T.ltT
  ltB := T.ltB
  neT := T.neT
  neB := T.neB
  hh := T.hh
  n1 := T.n1
  n2 := T.n2

theorem cell_sc {w : World} {b o b' o' : Nat} {v u : Value} (h : w.cell? ⟨b, o, none⟩ = some u) (hne : b' ≠ b ∨ o' ≠ o) : (w.setCell ⟨b', o', none⟩ v).cell? ⟨b, o, none⟩ = some u := (cell_ne hne).trans h

/-- A store into the timeline's own struct, behind its first five cells. -/
theorem TL.setT {d : TD} {w : World} {N : Nat} (T : TL d w N) (o : Nat) (ho : 5 ≤ o) (v : Value) : TL d (w.setCell ⟨d.t, o, none⟩ v) N where
  host := cell_sc T.host (Or.inr (by omega))
  blocks := cell_sc T.blocks (Or.inr (by omega))
  starts := cell_sc T.starts (Or.inr (by omega))
  n_ := cell_sc T.n_ (Or.inr (by omega))
  skips := cell_sc T.skips (Or.inr (by omega))
  bs := fun i hi => cell_sc (T.bs i hi) (Or.inl T.neT.1)
  ss := fun i hi => cell_sc (T.ss i hi) (Or.inl T.neT.2)
  bk := fun i hi => (T.bk i hi).fr (Fr.setCell (X := fun k => k = d.t) w ⟨d.t, o, none⟩ v rfl) (fun e => (T.neB i hi).1 e.symm) (fun e => (T.neB i hi).2.1 e.symm) (fun e => (T.neB i hi).2.2.1 e.symm) (fun e => (T.neB i hi).2.2.2 e.symm)
  inj := T.inj
  ltT := T.ltT
  ltB := T.ltB
  neT := T.neT
  neB := T.neB
  hh := T.hh
  n1 := T.n1
  n2 := T.n2

theorem nil45q : ∀ W (d : Nat), (Op.equalIn (d + 1) 45 (.slice none 0 0) (.slice none 0 0)).run Ybaf.prog W = .ok true W := fun W d => by
  simp [Op.equalIn, run_underlying Ybaf.underlying45]
theorem nil45n : ∀ W, (binOp BinOp.neq 45 (.slice none 0 0) (.slice none 0 0)).run Ybaf.prog W = .ok (.bool false) W := fun W => by
  simp only [binOp]
  simp [Op.equal, Op.maxDepth, nil45q W 9999]
theorem nil45e : ∀ W, (binOp BinOp.eql 45 (.slice none 0 0) (.slice none 0 0)).run Ybaf.prog W = .ok (.bool true) W := fun W => by
  simp only [binOp]
  simp [Op.equal, Op.maxDepth, nil45q W 9999]

set_option maxHeartbeats 400000 in
set_option maxRecDepth 100000 in
theorem len21 (d : TD) (w : World) (N : Nat) (T : TL d w N) (hk : w.cell? ⟨d.t, 5, none⟩ = some (.slice none 0 0)) (q : Nat) :
    Calls Ybaf.prog 21 #[.pointer (some ⟨d.t, 0, none⟩)] (w.drewN q) fun e w' => e = .returned (.int .i64 d.n) ∧ w' = w.drewN q := by
  have c3 := T.n_
  have nl := nil45n
  go_enter Ybaf.func21, Ybaf.ntmps21
  go_wp2
  go_ret
  exact ⟨rfl, rfl⟩

/-- The places run 1, 2, 3, ... -/
def runsB (ps : Nat → Nat) (n : Nat) : Bool := (List.range n).all fun i => ps i == i + 1

theorem runsB_iff (ps : Nat → Nat) (n : Nat) : runsB ps n = true ↔ ∀ i, i < n → ps i = i + 1 := by
  simp [runsB]

set_option maxHeartbeats 1000000 in
set_option maxRecDepth 100000 in
theorem inOrder10 (d : TD) (w : World) (N : Nat) (T : TL d w N) :
    Calls Ybaf.prog 10 #[.pointer (some ⟨d.t, 0, none⟩)] w fun e w' => e = .returned (.bool (runsB d.ps d.n)) ∧ ∃ q, w' = w.drewN q := by
  have mixed := Ybaf.laysUv.mixed
  have c1 := T.blocks
  have n2 := T.n2
  have T0 : Aside _ := T
  clear T
  go_enter Ybaf.func10, Ybaf.ntmps10
  go_wp2
  go_loopg [3, 11] d.n (fun kx s3 s11 wr => ∃ i : Nat, s11 = .int .i64 i ∧ s3 = .int .u64 ((i + 1 : Nat) : Int) ∧ i ≤ d.n ∧ d.n - i ≤ kx ∧ Aside (∀ j, j < i → d.ps j = j + 1) ∧ ∃ q, wr = w.drewN q)
  case atStart => exact ⟨0, rfl, rfl, by omega, by omega, fun j hj => absurd hj (by omega), 0, rfl⟩
  case round =>
    obtain ⟨i, rfl, rfl, hi, hkx, I, q, rfl⟩ := hrel
    by_cases hlt : i < d.n
    · have K := T0.out.bk i hlt
      have b0 := T0.out.bs i hlt
      have k7 := K.runs
      have k6 := K.first
      have k5 := K.n_
      have hltz : (i : Int) < (d.n : Int) := by omega
      obtain ⟨m, hm⟩ : ∃ m, i + 1 = m := ⟨_, rfl⟩
      rw [hm]
      have r1 : IntKind.u64.wrap ((m : Int) + 1) = ((m + 1 : Nat) : Int) := by rw [IntKind.wrap_u64]; omega
      have HM : Hid (i + 1 = m) := hm
      clear hm K
      by_cases hp : d.ps i = m
      · have hpz : ((d.ps i : Int) != (m : Int)) = false := by simp [hp]
        have I2 : Aside (∀ j, j < i + 1 → d.ps j = j + 1) := fun j hj => by
          by_cases e : j = i
          · subst e; rw [hp, HM.out]
          · exact I.out j (by omega)
        clear I
        go_wp2_with fail
        go_roundg (d.n - (i + 1))
        case measure => omega
        case rel => exact ⟨i + 1, by go_num, by rw [HM.out]; go_num, by omega, Nat.le_refl _, I2, q, rfl⟩
      · have hpz : ((d.ps i : Int) != (m : Int)) = true := by simp; omega
        have e : Hid (runsB d.ps d.n = false) := by
          cases hx : runsB d.ps d.n
          · rfl
          · exact absurd ((runsB_iff _ _).1 hx i hlt) (by rw [HM.out]; exact hp)
        clear I
        go_wp2
        go_ret
        exact ⟨by rw [e.out]; rfl, q, rfl⟩
    · have hltz : ¬ (i : Int) < (d.n : Int) := by omega
      obtain rfl : i = d.n := by omega
      have e : Hid (runsB d.ps d.n = true) := (runsB_iff _ _).2 I.out
      go_wp2
      go_ret
      exact ⟨by rw [e.out]; rfl, q, rfl⟩
end Go.Proofs.YbulkbyweFmt
