import Derived.Test.YbulkbyywSame
namespace Go.Proofs.Ybulkbyyw
open Go.RowKit

/-- w' is w but for the blocks of S and new ones. -/
structure Out (S : Nat → Prop) (w w' : World) : Prop where
  os : w'.os = w.os
  tape : w'.tape = w.tape
  output : w'.output = w.output
  size : w.heap.size ≤ w'.heap.size
  block : ∀ b, b < w.heap.size → ¬ S b → w'.heap[b]? = w.heap[b]?

theorem Out.refl (S : Nat → Prop) (w : World) : Out S w w := ⟨rfl, rfl, rfl, Nat.le_refl _, fun _ _ _ => rfl⟩
theorem Out.trans {S : Nat → Prop} {a b c : World} (h : Out S a b) (g : Out S b c) : Out S a c :=
  ⟨g.os.trans h.os, g.tape.trans h.tape, g.output.trans h.output, Nat.le_trans h.size g.size, fun k hk hn => (g.block k (Nat.lt_of_lt_of_le hk h.size) hn).trans (h.block k hk hn)⟩
theorem Out.mono {S T : Nat → Prop} {a b : World} (h : Out S a b) (hST : ∀ k, S k → T k) : Out T a b := ⟨h.os, h.tape, h.output, h.size, fun k hk hn => h.block k hk (fun s => hn (hST k s))⟩
theorem Out.set {S : Nat → Prop} {a w : World} (h : Out S a w) (b o : Nat) (v : Value) (hb : S b) : Out S a (w.setCell ⟨b, o, none⟩ v) :=
  h.trans ⟨rfl, rfl, rfl, by simp, fun k _ hn => heap_setCell_other _ _ _ _ (fun e => hn (by rw [e]; exact hb))⟩
theorem Out.drewN {S : Nat → Prop} {a w : World} (h : Out S a w) (q : Nat) : Out S a (w.drewN q) := ⟨h.os, h.tape, h.output, h.size, h.block⟩
theorem Out.alloc {S : Nat → Prop} {a w : World} (h : Out S a w) (O : Obj) : Out S a (w.alloc O) :=
  h.trans ⟨rfl, rfl, rfl, by simp, fun k hk _ => Below.heap_alloc _ _ _ hk⟩
theorem Out.below {S : Nat → Prop} {w w' : World} {B : Nat} (h : Out S w w') (hB : B ≤ w.heap.size) (hS : ∀ k, S k → B ≤ k) : Below B w w' :=
  ⟨h.os, h.tape, h.output, h.size, fun k hk => h.block k (Nat.lt_of_lt_of_le hk hB) (fun s => by have := hS k s; omega)⟩
theorem Out.cell {S : Nat → Prop} {w w' : World} (h : Out S w w') {b o : Nat} (hb : b < w.heap.size) (hn : ¬ S b) : w'.cell? ⟨b, o, none⟩ = w.cell? ⟨b, o, none⟩ := World.cell?_of_block (h.block b hb hn)
theorem Out.free {S : Nat → Prop} {w w' : World} (h : Out S w w') {b o : Nat} (hb : b < w.heap.size) (hn : ¬ S b) : w'.frozen? ⟨b, o, none⟩ = w.frozen? ⟨b, o, none⟩ := World.frozen?_of_block (h.block b hb hn)

/-- The blocks of the law's buffer. -/
def Mine (H k : Nat) : Nat → Prop := fun b => H ≤ b ∧ b < H + 5 + 3 * k

/-- The waiting put: its block. -/
structure Wait (W C : Nat) (nx : Value) (q : Bool) (v : Int) (w : World) : Prop where
  c0 : w.cell? ⟨W, 0, none⟩ = some nx
  c1 : w.cell? ⟨W, 1, none⟩ = some (.pointer none)
  c2 : w.cell? ⟨W, 2, none⟩ = some (.pointer none)
  c3 : w.cell? ⟨W, 3, none⟩ = some (.bool q)
  c4 : w.cell? ⟨W, 4, none⟩ = some (.chan (some C))
  c5 : w.cell? ⟨W, 5, none⟩ = some (.int .i64 v)
  fz : ∀ o, w.frozen? ⟨W, o, none⟩ = false
  lt : W < w.heap.size

theorem Wait.out {S : Nat → Prop} {W C : Nat} {nx : Value} {q : Bool} {v : Int} {w w' : World} (h : Wait W C nx q v w) (ho : Out S w w') (hn : ¬ S W) : Wait W C nx q v w' :=
  ⟨(ho.cell h.lt hn).trans h.c0, (ho.cell h.lt hn).trans h.c1, (ho.cell h.lt hn).trans h.c2, (ho.cell h.lt hn).trans h.c3, (ho.cell h.lt hn).trans h.c4, (ho.cell h.lt hn).trans h.c5, fun o => (ho.free h.lt hn).trans (h.fz o), Nat.lt_of_lt_of_le h.lt ho.size⟩

section
variable {H k c : Nat} {B : Nat → Value} {F N : Nat → Int} {X : Nat → Nat → Int} {F' N' : Nat → Int} {X' : Nat → Nat → Int} {w : World}

theorem pop_st (h : St H k c B F N X F' N' X' w) (a f g : Nat) (n : Int) (ha : a < k) (hf : f < c) (hc : c ≤ 8) (hF : F a = (f : Int)) (hN : N a = n) (hn : 0 < n) (hn8 : n ≤ 8) (hg : (f + 1) % c = g) :
    Calls Yba.prog 10 #[.pointer (some ⟨H + 7 + 3 * a, 0, none⟩)] w fun e w' => e = .returned (.tuple #[.int .i64 (X a f), .bool true]) ∧ St H k c B (updI F a (g : Int)) (updI N a (n - 1)) (updX X a f 0) F' N' X' w' ∧ Out (Mine H k) w w' := by
  refine (pop_some (H + 7 + 3 * a) (H + 5 + 3 * a) c f g n (X a f) w hf hc hn hn8 hg (by omega) (h.seg0 a ha) (by rw [← hF]; exact h.seg1 a ha) (by rw [← hN]; exact h.seg2 a ha) (h.val a f ha hf) (h.free _ _ (by omega) (by omega)) (h.free _ _ (by omega) (by omega)) (h.free _ _ (by omega) (by omega))).mono ?_
  rintro e w' ⟨rfl, q, rfl⟩
  refine ⟨rfl, (((h.setVal a f ha hf 0).setFirst a ha (g : Int)).setN a ha (n - 1)).drewN q, ((((Out.refl _ _).set _ _ _ ?_).set _ _ _ ?_).set _ _ _ ?_).drewN q⟩ <;> exact ⟨by omega, by omega⟩

theorem push_st (h : St H k c B F N X F' N' X' w) (a f g n : Nat) (x : Int) (ha : a < k) (hf : f < c) (hc : c ≤ 8) (hF : F a = (f : Int)) (hN : N a = (n : Int)) (hn : n < c) (hg : (f + n) % c = g) :
    Calls Yba.prog 13 #[.pointer (some ⟨H + 7 + 3 * a, 0, none⟩), .int .i64 x] w fun e w' => e = .returned (.bool true) ∧ St H k c B F (updI N a ((n : Int) + 1)) (updX X a g x) F' N' X' w' ∧ Out (Mine H k) w w' := by
  have hgc : g < c := by rw [← hg]; exact Nat.mod_lt _ (by omega)
  refine (push_some (H + 7 + 3 * a) (H + 5 + 3 * a) c f g n x (X a g) w hf hc hn hg (by omega) (h.seg0 a ha) (by rw [← hF]; exact h.seg1 a ha) (by rw [← hN]; exact h.seg2 a ha) (h.val a g ha hgc) (h.free _ _ (by omega) (by omega)) (h.free _ _ (by omega) (by omega))).mono ?_
  rintro e w' ⟨rfl, q, rfl⟩
  refine ⟨rfl, ((h.setVal a g ha hgc x).setN a ha ((n : Int) + 1)).drewN q, (((Out.refl _ _).set _ _ _ ?_).set _ _ _ ?_).drewN q⟩ <;> exact ⟨by omega, by omega⟩

theorem add_st (h : St H k c B F N X F' N' X' w) (h5 : B 5 = .int .u64 0) :
    Calls Yba.prog 11 #[.pointer (some ⟨H, 5, none⟩), .int .u64 1] w fun e w' => e = .returned (.int .u64 1) ∧ St H k c (updB B 5 (.int .u64 1)) F N X F' N' X' w' ∧ Out (Mine H k) w w' := by
  refine (add_one H 5 w (by rw [← h5]; exact h.buf 5 (by omega)) (h.free _ _ (by omega) (by omega))).mono ?_
  rintro e w' ⟨rfl, rfl⟩
  exact ⟨rfl, h.setBuf 5 (by omega) _, (Out.refl _ _).set _ _ _ ⟨by omega, by omega⟩⟩

theorem lpop_st (h : St H k c B F N X F' N' X' w) (W C : Nat) (v : Int) (hW : H + 5 + 3 * k ≤ W) (b0 : B 13 = .pointer (some ⟨W, 0, none⟩)) (b1 : B 14 = .pointer (some ⟨W, 0, none⟩)) (b2 : B 15 = .int .i64 1) (hw : Wait W C (.pointer (some ⟨W, 0, none⟩)) true v w) :
    Calls Yba.prog 12 #[.pointer (some ⟨H, 13, none⟩)] w fun e w' => e = .returned (.pointer (some ⟨W, 0, none⟩)) ∧ St H k c (updB (updB (updB B 13 (.pointer none)) 14 (.pointer none)) 15 (.int .i64 0)) F N X F' N' X' w' ∧ Wait W C (.pointer (some ⟨W, 0, none⟩)) false v w' ∧ Out (fun b => Mine H k b ∨ b = W) w w' := by
  refine (lpop_one H W w (by omega) (by rw [← b0]; exact h.buf 13 (by omega)) (by rw [← b1]; exact h.buf 14 (by omega)) (by rw [← b2]; exact h.buf 15 (by omega)) hw.c0 hw.c1 hw.c2 hw.c3 (fun o => h.free _ _ (by omega) (by omega)) hw.fz).mono ?_
  rintro e w' ⟨rfl, rfl⟩
  refine ⟨rfl, ?_, ?_, ?_⟩
  · have h1 := ((((h.setBuf 13 (by omega) (.pointer none)).setBuf 14 (by omega) (.pointer none)).setOut W 1 hW (.pointer none)).setOut W 2 hW (.pointer none)).setOut W 3 hW (.bool false)
    exact h1.setBuf 15 (by omega) _
  · refine ⟨?_, ?_, ?_, ?_, ?_, ?_, fun o => ?_, ?_⟩
    · rw [cell_ne (by omega), cell_ne (by omega), cell_ne (by omega), cell_ne (by omega), cell_ne (by omega), cell_ne (by omega)]; exact hw.c0
    · rw [cell_ne (by omega), cell_ne (by omega), cell_ne (by omega)]; exact World.cell?_setCell_same _ _ _ ((cell_ne (by omega)).trans ((cell_ne (by omega)).trans hw.c1))
    · rw [cell_ne (by omega), cell_ne (by omega)]; exact World.cell?_setCell_same _ _ _ ((cell_ne (by omega)).trans ((cell_ne (by omega)).trans ((cell_ne (by omega)).trans hw.c2)))
    · rw [cell_ne (by omega)]; exact World.cell?_setCell_same _ _ _ ((cell_ne (by omega)).trans ((cell_ne (by omega)).trans ((cell_ne (by omega)).trans ((cell_ne (by omega)).trans hw.c3))))
    · rw [cell_ne (by omega), cell_ne (by omega), cell_ne (by omega), cell_ne (by omega), cell_ne (by omega), cell_ne (by omega)]; exact hw.c4
    · rw [cell_ne (by omega), cell_ne (by omega), cell_ne (by omega), cell_ne (by omega), cell_ne (by omega), cell_ne (by omega)]; exact hw.c5
    · simp only [World.frozen?_setCell]; exact hw.fz o
    · have := hw.lt; simpa using this
  · refine ((((((Out.refl _ _).set _ _ _ ?_).set _ _ _ ?_).set _ _ _ ?_).set _ _ _ ?_).set _ _ _ ?_).set _ _ _ ?_
    · exact .inl ⟨by omega, by omega⟩
    · exact .inl ⟨by omega, by omega⟩
    · exact .inr rfl
    · exact .inr rfl
    · exact .inr rfl
    · exact .inl ⟨by omega, by omega⟩
end
end Go.Proofs.Ybulkbyyw
