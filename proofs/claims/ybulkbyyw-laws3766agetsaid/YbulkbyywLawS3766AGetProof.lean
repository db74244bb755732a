import Derived.Test.YbulkbyywAll
import Derived.ProofKit
import Derived.OpenShut
import Derived.ShutString
import Derived.ChangeOld
import Derived.Deep.Slices
import Derived.Deep.Strs
namespace Go.Proofs.Ybulkbyyw.lawS3766AGet
open Go.ChangeShapes Go.WideShapes Go.ChangeAt Go.RowKit Go.Deep

theorem own : ownKnob Yba.prog.godebug = none := by kernel_rfl
theorem laidOut : laidOutB Yba.prog = true := by kernel_rfl
theorem cells63 : Yba.prog.cellsOf 63 = 3 := by kernel_rfl
theorem cells25 : Yba.prog.cellsOf 25 = 1 := by kernel_rfl
theorem cells5 : Yba.prog.cellsOf 5 = 1 := by kernel_rfl
theorem wf_u8 {x : Int} (h : (Lit.int .u8 x).wf = true) : 0 ≤ x ∧ x ≤ 255 := by
  have e1 : IntKind.u8.min = 0 := by decide
  have e2 : IntKind.u8.max = 255 := by decide
  simp only [Lit.wf, Bool.and_eq_true, decide_eq_true_eq, e1, e2] at h
  exact h

/-- Where a slice's elements lie, and that indexing it leads there. -/
theorem src_of {w : World} {a : Addr} {n c : Nat} {f : Nat → Value} (h : ∀ i, i < n → w.cell? (a.add i) = some (f i)) :
    ∃ b o, ∀ j, j < n → b < w.heap.size ∧ w.cell? ⟨b, o + j, none⟩ = some (f j) ∧ ∀ W, (Instr.indexAt 25 (.slice (some a) n c) (.int .i64 (j : Int))).run Yba.prog W = .ok (.pointer (some ⟨b, o + j, none⟩)) W := by
  by_cases h0 : n = 0
  · subst h0; exact ⟨0, 0, fun j hj => by omega⟩
  · obtain ⟨b, off, spot⟩ := a
    have hspot : spot = none := by simpa [Addr.add] using World.cell?_spot (h 0 (by omega))
    subst hspot
    refine ⟨b, off, fun j hj => ?_⟩
    have hc := h j hj
    rw [Addr.add_lit] at hc
    refine ⟨block_lt_of_cell hc, hc, fun W => ?_⟩
    simp [Instr.indexAt, run_underlying Yba.underlying25, asIntOf, hj, Addr.add_lit]

section
variable {H : Type} {enc : TypeId × Value → H}

/-- One segment that came in. -/
theorem seg_of {W : World} {n : Nat} {a : Addr} {cs : List Value} {x : DataW H × List MemPlace} (h1 : W.cells? 0 a 3 = some cs) (h2 : DataW.trod enc Yba.prog W 0 (fun _ => true) true n 63 cs = some x) :
    ∃ q : Option Addr × Nat × Nat × Nat × Nat × Int × Int × (Nat → Int), W.cell? a = some (.slice q.1 q.2.1 q.2.2.1) ∧ W.cell? (a.add 1) = some (.int .u8 q.2.2.2.2.2.1) ∧ W.cell? (a.add 2) = some (.int .u8 q.2.2.2.2.2.2.1) ∧
      (0 ≤ q.2.2.2.2.2.1 ∧ q.2.2.2.2.2.1 ≤ 255) ∧ (0 ≤ q.2.2.2.2.2.2.1 ∧ q.2.2.2.2.2.2.1 ≤ 255) ∧ q.2.1 ≤ 9223372036854775807 ∧
      ∀ j, j < q.2.1 → q.2.2.2.1 < W.heap.size ∧ W.cell? ⟨q.2.2.2.1, q.2.2.2.2.1 + j, none⟩ = some (.int .i64 (q.2.2.2.2.2.2.2 j)) ∧ ∀ V, (Instr.indexAt 25 (.slice q.1 q.2.1 q.2.2.1) (.int .i64 (j : Int))).run Yba.prog V = .ok (.pointer (some ⟨q.2.2.2.1, q.2.2.2.2.1 + j, none⟩)) V := by
  obtain ⟨_, hlen, hcell⟩ := World.cells?_some h1
  obtain ⟨y0, y1, y2, m, _, _, g0, g1, g2⟩ := trod_struct3 Yba.underlying63 h2
  obtain ⟨v0, v1, v2, rfl⟩ : ∃ v0 v1 v2, cs = [v0, v1, v2] := by
    match cs, hlen with
    | [v0, v1, v2], _ => exact ⟨v0, v1, v2, rfl⟩
  have e0 : W.cell? a = some v0 := by have := hcell 0 (by omega); simpa [Addr.add] using this
  have e1 : W.cell? (a.add 1) = some v1 := by have := hcell 1 (by omega); simpa using this
  have e2 : W.cell? (a.add 2) = some v2 := by have := hcell 2 (by omega); simpa using this
  rw [show (Yba.prog.cellsOf 25) = 1 from cells25] at g0
  rw [show (Yba.prog.cellsOf 5) = 1 from cells5] at g1 g2
  obtain ⟨f, hf, _, wf⟩ := DataW.trod_int Yba.underlying5 g1
  obtain ⟨nn, hn, _, wn⟩ := DataW.trod_int Yba.underlying5 g2
  simp at hf hn
  subst hf; subst hn
  rcases open_ints Yba.underlying25 Yba.underlying3 (by kernel_rfl) g0 with ⟨hcs, _⟩ | ⟨x, l, cc, zs, hcs, _, hl, hm, hz, _, hc, _⟩
  · simp at hcs
    subst hcs
    exact ⟨(none, 0, 0, 0, 0, f, nn, fun _ => 0), e0, e1, e2, wf_u8 wf, wf_u8 wn, by show 0 ≤ _; omega, fun j hj => by simp at hj⟩
  · simp at hcs
    subst hcs
    simp only [if_true] at hz
    obtain ⟨b, o, hb⟩ := src_of (w := W) (a := x) (n := l) (c := cc) (f := fun i => .int .i64 (zs.getD i 0)) (fun i hi => hc i (by omega))
    exact ⟨(some x, l, cc, b, o, f, nn, fun j => zs.getD j 0), e0, e1, e2, wf_u8 wf, wf_u8 wn, by unfold maxLen at hm; show l ≤ _; omega, hb⟩

theorem inp_of {W : World} {fuel : Nat} {a0 : Option Addr} {k c0 : Nat} {x : DataW H × List MemPlace} (hf : DataW.trod enc Yba.prog W 0 (fun _ => true) true fuel 22 [.slice a0 k c0] = some x) :
    k ≤ maxLen ∧ ∃ b0 o0 sa sl sc bb oo fi ni xi, Inp W a0 k c0 b0 o0 sa sl sc bb oo fi ni xi := by
  rcases open_slice Yba.underlying22 hf with ⟨hcs, _⟩ | ⟨a, len, cap, m, n, D, Pl, hcs, _, hl, hm, hmm, _, hx⟩
  · simp at hcs
    obtain ⟨rfl, rfl, rfl⟩ := hcs
    exact ⟨Nat.zero_le _, 0, 0, fun _ => none, fun _ => 0, fun _ => 0, fun _ => 0, fun _ => 0, fun _ => 0, fun _ => 0, fun _ _ => 0, by constructor <;> intros <;> omega⟩
  · simp at hcs
    obtain ⟨rfl, rfl, rfl⟩ := hcs
    simp only [if_true] at hmm
    subst hmm
    refine ⟨by omega, ?_⟩
    obtain ⟨q, hq⟩ := choose_lt (n := k) (fun i hi => by
      obtain ⟨cs', h1, h2⟩ := hx i (by omega)
      rw [cells63] at h1
      exact seg_of h1 h2)
    by_cases hk : k = 0
    · subst hk
      exact ⟨0, 0, fun _ => none, fun _ => 0, fun _ => 0, fun _ => 0, fun _ => 0, fun _ => 0, fun _ => 0, fun _ _ => 0, by constructor <;> intros <;> omega⟩
    · obtain ⟨b, off, spot⟩ := a
      have hspot : spot = none := by simpa [Addr.add] using World.cell?_spot (hq 0 (by omega)).1
      subst hspot
      have c0 : ∀ i, i < k → W.cell? ⟨b, off + i * 3, none⟩ = some (.slice (q i).1 (q i).2.1 (q i).2.2.1) := fun i hi => by have := (hq i hi).1; rwa [Addr.add_lit] at this
      refine ⟨b, off, fun i => (q i).1, fun i => (q i).2.1, fun i => (q i).2.2.1, fun i => (q i).2.2.2.1, fun i => (q i).2.2.2.2.1, fun i => (q i).2.2.2.2.2.1, fun i => (q i).2.2.2.2.2.2.1, fun i => (q i).2.2.2.2.2.2.2, ?_⟩
      refine ⟨fun i hi => block_lt_of_cell (c0 i hi), c0, fun i hi => ?_, fun i hi => ?_, fun i hi => (hq i hi).2.2.2.1, fun i hi => (hq i hi).2.2.2.2.1, fun i hi => (hq i hi).2.2.2.2.2.1, fun i hi V => ?_, fun i j hi hj => ((hq i hi).2.2.2.2.2.2 j hj).1, fun i j hi hj => ((hq i hi).2.2.2.2.2.2 j hj).2.1, fun i j hi hj => ((hq i hi).2.2.2.2.2.2 j hj).2.2⟩
      · have := (hq i hi).2.1; rwa [Addr.add_lit, Addr.add_lit] at this
      · have := (hq i hi).2.2.1; rwa [Addr.add_lit, Addr.add_lit] at this
      · simp [Instr.indexAt, run_underlying Yba.underlying22, asIntOf, hi, Addr.add_lit]
end

set_option maxRecDepth 100000 in
theorem lifted (os : Os) (started : os.Started) (H : Type) (enc : TypeId × Value → H) :
    ReturnsInHanded {} Yba.checked os 3 .any (Rows.lawS3766AGetSpec.pre6 enc Yba.prog Yba.f3 Rows.lawS3766AGetRow.domain false) (Rows.lawS3766AGetSpec.post enc Yba.prog Yba.f3 false true false false) := by
  refine returnsInHanded_of_change (C := Yba.checked) own started (by kernel_rfl) Yba.func3
    (ChangeSpec.witness6 (enc := enc) (C := Yba.checked) false ⟨#[], #[.slice none 0 0, .int .u8 0, .int .u8 0, .bool false, .int .i64 0], []⟩ 8 (by kernel_rfl) (by kernel_rfl) (by kernel_rfl) (by kernel_rfl)) ?_
  intro W base args ds gs before hval0 hW hcnd _
  have hval : ∀ (j : Nat) t v, Yba.f3.params[j]? = some t → args[j]? = some v → Value.okWide Yba.prog W .any base t v := hval0
  have hW' := hW
  obtain ⟨p, q, hA0, hV, rfl, hfz, hnd⟩ := hW
  have hA : DataW.TrodAll enc Yba.prog W 0 (fun _ => true) true Yba.f3.params.toList args.toList ds p := hA0
  rw [Yba.params3] at hA hval
  obtain ⟨v0, vs0, d0, ds0, p0, q0, hargs, rfl, rfl, h0, r0⟩ := trodAll_cons hA
  obtain ⟨v1, vs1, d1, ds1, p1, q1, rfl, rfl, rfl, h1, r1⟩ := trodAll_cons r0
  obtain ⟨v2, vs2, d2, ds2, p2, q2, rfl, rfl, rfl, h2, r2⟩ := trodAll_cons r1
  obtain ⟨v3, vs3, d3, ds3, p3, q3, rfl, rfl, rfl, h3, r3⟩ := trodAll_cons r2
  obtain ⟨v4, vs4, d4, ds4, p4, q4, rfl, rfl, rfl, h4, r4⟩ := trodAll_cons r3
  obtain ⟨rfl, rfl, rfl⟩ := trodAll_nil r4
  obtain rfl : args = #[v0, v1, v2, v3, v4] := by cases args; simp_all
  obtain ⟨rfl, rfl⟩ := trodVars_none hV
  obtain ⟨a0, len0, cap0, rfl⟩ := okWide_slice Yba.underlying22 (hval 0 22 v0 rfl rfl)
  have k0 := h0
  have lt0 : ∀ x ∈ p0, x.block < W.heap.size := by obtain ⟨m, hm⟩ := k0; exact DataW.trod_lt m _ _ _ hm
  obtain ⟨hm0, b0, o0, sa, sl, sc, bb, oo, fi, ni, xi, hin⟩ : len0 ≤ maxLen ∧ ∃ b0 o0 sa sl sc bb oo fi ni xi, Inp W a0 len0 cap0 b0 o0 sa sl sc bb oo fi ni xi := by
    obtain ⟨fuel, hf⟩ := h0
    exact inp_of hf
  obtain ⟨a1, rfl, rfl, rfl, w1⟩ := open_int Yba.underlying5 (hval 1 5 v1 rfl rfl) h1
  obtain ⟨a2, rfl, rfl, rfl, w2⟩ := open_int Yba.underlying5 (hval 2 5 v2 rfl rfl) h2
  obtain ⟨a3, rfl, rfl, rfl⟩ := open_bool Yba.underlying4 (hval 3 4 v3 rfl rfl) h3
  obtain ⟨a4, rfl, rfl, rfl, w4⟩ := open_int Yba.underlying3 (hval 4 3 v4 rfl rfl) h4
  clear hA0 hval0
  have main : Calls Yba.prog 3 #[.slice a0 len0 cap0, .int .u8 a1, .int .u8 a2, .bool a3, .int .i64 a4] W fun e w' => e = .returned (.bool true) ∧ Below W.heap.size W w' := by
    by_cases hn : len0 ≤ 300
    · have b2 := wf_u8 w2
      obtain ⟨g, rfl⟩ : ∃ g : Nat, a2 = (g : Int) := ⟨a2.toNat, by omega⟩
      exact law_all a0 len0 cap0 b0 o0 g a1 a4 a3 sa sl sc bb oo fi ni xi W hn (wf_u8 w1) (by omega) hin
    · exact law_long a0 len0 cap0 _ _ _ _ W (by omega) hm0
  refine main.mono fun e W' ⟨he, bel⟩ => ?_
  subst he
  exact ⟨_, rfl, _, _, _, [], _, [], hW', trodAll_mk1 (shut_bool Yba.underlying4 _), (trodAll_cons_mk (Below.trod laidOut (by kernel_rfl) (of_decide_eq_true (by kernel_rfl)) k0 bel lt0) (trodAll_cons_mk (shut_int Yba.underlying5 w1) (trodAll_cons_mk (shut_int Yba.underlying5 w2) (trodAll_cons_mk (shut_bool Yba.underlying4 _) (trodAll_cons_mk (shut_int Yba.underlying3 w4) trodAll_mk0))))), rfl, bel.frame _, fun h => by cases h⟩

theorem over : Rows.lawS3766AGetRow.holds Yba.pinned (OpenSpec.ofChange Rows.lawS3766AGetSpec) :=
  OpenClaim.holds_of_wide 3 Yba.f3 rfl rfl rfl rfl rfl rfl rfl ⟨rfl, rfl, rfl, rfl, rfl⟩ rfl rfl rfl rfl rfl (by kernel_rfl) Yba.func3 (by kernel_rfl)
    (of_decide_eq_true (by kernel_rfl)) (by unfold Func.isWrapper; first | (rw [if_pos (by decide +kernel)]; kernel_rfl) | (rw [if_neg (by decide +kernel)]; exact ⟨rfl, rfl⟩))
    (fun os started H enc _ => lifted os started H enc)
end Go.Proofs.Ybulkbyyw.lawS3766AGet
namespace Go.Proofs.Ybulkbyyw

/-- THE STATEMENT -/
theorem lawS3766AGet_proved : Rows.LawS3766AGetSaid := lawS3766AGet.over
end Go.Proofs.Ybulkbyyw
