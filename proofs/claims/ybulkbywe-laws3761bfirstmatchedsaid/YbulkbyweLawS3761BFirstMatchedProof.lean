import Derived.Test.YbulkbyweWalk
import Derived.ProofKit
import Derived.OpenShut
import Derived.ShutString
import Derived.ChangeOld
import Derived.Deep.Grids
namespace Go.Proofs.Ybulkbywe.lawS3761BFirstMatched
open Go.ChangeShapes Go.WideShapes Go.ChangeAt Go.RowKit Go.Deep

theorem own : ownKnob Yba.prog.godebug = none := by kernel_rfl
theorem laidOut : laidOutB Yba.prog = true := by kernel_rfl

/-- What the walk is told of a slice: where its elements lie, and that indexing it leads there. -/
theorem src_of {w : World} {a : Addr} {n c : Nat} {t e : TypeId} {f : Nat → Value} (ht : Yba.prog.underlying t = some (.slice e)) (he : ∀ W, (sizeOf e).run Yba.prog W = .ok 1 W) (h : ∀ i, i < n → w.cell? (a.add i) = some (f i)) :
    ∃ b o, ∀ j, j < n → b < w.heap.size ∧ w.cell? ⟨b, o + j, none⟩ = some (f j) ∧ ∀ W, (Instr.indexAt t (.slice (some a) n c) (.int .i64 (j : Int))).run Yba.prog W = .ok (.pointer (some ⟨b, o + j, none⟩)) W := by
  by_cases h0 : n = 0
  · subst h0; exact ⟨0, 0, fun j hj => by omega⟩
  · obtain ⟨b, off, spot⟩ := a
    have hspot : spot = none := by simpa [Addr.add] using World.cell?_spot (h 0 (by omega))
    subst hspot
    refine ⟨b, off, fun j hj => ?_⟩
    have hc := h j hj
    rw [Addr.add_lit] at hc
    refine ⟨block_lt_of_cell hc, hc, fun W => ?_⟩
    simp [Instr.indexAt, run_underlying ht, asIntOf, he, hj, Addr.add_lit]

theorem size4 (W : World) : (sizeOf 4).run Yba.prog W = .ok 1 W := by kernel_rfl
theorem size26 (W : World) : (sizeOf 26).run Yba.prog W = .ok 1 W := by kernel_rfl
theorem size5 (W : World) : (sizeOf 5).run Yba.prog W = .ok 1 W := by kernel_rfl

theorem wf_i8 {x : Int} (h : (Lit.int .i8 x).wf = true) : -128 ≤ x ∧ x ≤ 127 := by
  have e1 : IntKind.i8.min = -128 := by decide
  have e2 : IntKind.i8.max = 127 := by decide
  simp only [Lit.wf, Bool.and_eq_true, decide_eq_true_eq, e1, e2] at h
  exact h
theorem wf_u8 {x : Int} (h : (Lit.int .u8 x).wf = true) : 0 ≤ x ∧ x ≤ 255 := by
  have e1 : IntKind.u8.min = 0 := by decide
  have e2 : IntKind.u8.max = 255 := by decide
  simp only [Lit.wf, Bool.and_eq_true, decide_eq_true_eq, e1, e2] at h
  exact h

set_option maxRecDepth 100000 in
/-- More than 1024 names: nothing is done. -/
theorem long (a0 : Option Addr) (n c0 : Nat) (v1 v2 : Value) (w : World) (hn : 1024 < n) (hm : n ≤ maxLen) :
    Calls Yba.prog 3 #[.slice a0 n c0, v1, v2] w fun e w' => e = .returned (.bool true) ∧ Below w.heap.size w w' := by
  unfold maxLen at hm
  have h1 : (1024 : Int) < (n : Int) := by omega
  go_enter Yba.func3, Yba.ntmps3
  go_wp2
  go_ret
  exact ⟨rfl, Below.refl _ _⟩

set_option maxRecDepth 100000 in
theorem lifted (os : Os) (started : os.Started) (H : Type) (enc : TypeId × Value → H) :
    ReturnsInHanded {} Yba.checked os 3 .any (Rows.lawS3761BFirstMatchedSpec.pre6 enc Yba.prog Yba.f3 Rows.lawS3761BFirstMatchedRow.domain false) (Rows.lawS3761BFirstMatchedSpec.post enc Yba.prog Yba.f3 false true false false) := by
  refine returnsInHanded_of_change (C := Yba.checked) own started (by kernel_rfl) Yba.func3
    (ChangeSpec.witness6 (enc := enc) (C := Yba.checked) false ⟨#[], #[.slice none 0 0, .slice none 0 0, .slice none 0 0], []⟩ 8 (by kernel_rfl) (by kernel_rfl) (by kernel_rfl) (by kernel_rfl)) ?_
  intro W base args ds gs before hval0 hW hcnd _
  have hval : ∀ (j : Nat) t v, Yba.f3.params[j]? = some t → args[j]? = some v → Value.okWide Yba.prog W .any base t v := hval0
  have hW' := hW
  obtain ⟨p, q, hA0, hV, rfl, hfz, hnd⟩ := hW
  have hA : DataW.TrodAll enc Yba.prog W 0 (fun _ => true) true Yba.f3.params.toList args.toList ds p := hA0
  rw [Yba.params3] at hA hval
  obtain ⟨v0, vs0, d0, ds0, p0, q0, hargs, rfl, rfl, h0, r0⟩ := trodAll_cons hA
  obtain ⟨v1, vs1, d1, ds1, p1, q1, rfl, rfl, rfl, h1, r1⟩ := trodAll_cons r0
  obtain ⟨v2, vs2, d2, ds2, p2, q2, rfl, rfl, rfl, h2, r2⟩ := trodAll_cons r1
  obtain ⟨rfl, rfl, rfl⟩ := trodAll_nil r2
  obtain rfl : args = #[v0, v1, v2] := by cases args; simp_all
  obtain ⟨rfl, rfl⟩ := trodVars_none hV
  obtain ⟨a0, len0, cap0, rfl⟩ := okWide_slice Yba.underlying22 (hval 0 22 v0 rfl rfl)
  obtain ⟨a1, len1, cap1, rfl⟩ := okWide_slice Yba.underlying23 (hval 1 23 v1 rfl rfl)
  obtain ⟨a2, len2, cap2, rfl⟩ := okWide_slice Yba.underlying24 (hval 2 24 v2 rfl rfl)
  have k0 := h0
  have k1 := h1
  have k2 := h2
  have lt0 : ∀ x ∈ p0, x.block < W.heap.size := by obtain ⟨m, hm⟩ := k0; exact DataW.trod_lt m _ _ _ hm
  have lt1 : ∀ x ∈ p1, x.block < W.heap.size := by obtain ⟨m, hm⟩ := k1; exact DataW.trod_lt m _ _ _ hm
  have lt2 : ∀ x ∈ p2, x.block < W.heap.size := by obtain ⟨m, hm⟩ := k2; exact DataW.trod_lt m _ _ _ hm
  obtain ⟨bs, b0, o0, hl0, hm0, w0⟩ : ∃ (bs : List Bool) (b o : Nat), bs.length = len0 ∧ len0 ≤ maxLen ∧ ∀ j, j < bs.length → b < W.heap.size ∧ W.cell? ⟨b, o + j, none⟩ = some (.bool (bs.getD j false)) ∧ ∀ V, (Instr.indexAt 22 (.slice a0 bs.length cap0) (.int .i64 (j : Int))).run Yba.prog V = .ok (.pointer (some ⟨b, o + j, none⟩)) V := by
    obtain ⟨fuel, hf⟩ := h0
    rcases open_bools Yba.underlying22 Yba.underlying4 (by kernel_rfl) hf with ⟨hcs, _⟩ | ⟨x, l, c, B, hcs, _, hl, hm, _, hcell⟩
    · simp [Value.cells] at hcs
      obtain ⟨rfl, rfl, rfl⟩ := hcs
      exact ⟨[], 0, 0, rfl, Nat.zero_le _, fun j hj => by simp at hj⟩
    · simp [Value.cells] at hcs
      obtain ⟨rfl, rfl, rfl⟩ := hcs
      have hlen : ((List.range len0).map B).length = len0 := by simp
      obtain ⟨b, o, hb⟩ := src_of (w := W) (a := x) (n := len0) (c := cap0) (t := 22) (e := 4) (f := fun i => .bool (((List.range len0).map B).getD i false)) Yba.underlying22 size4 (fun i hi => by
        rw [hcell i (by omega)]; simp [List.getD, hi])
      exact ⟨(List.range len0).map B, b, o, hlen, by omega, fun j hj => by rw [hlen] at hj ⊢; exact hb j hj⟩
  obtain ⟨st, b1, o1, hl1, hm1, hr1, w1⟩ : ∃ (zs : List Int) (b o : Nat), zs.length = len1 ∧ len1 ≤ maxLen ∧ (∀ x ∈ zs, -128 ≤ x ∧ x ≤ 127) ∧ ∀ j, j < zs.length → b < W.heap.size ∧ W.cell? ⟨b, o + j, none⟩ = some (.int .i8 (zs.getD j 0)) ∧ ∀ V, (Instr.indexAt 23 (.slice a1 zs.length cap1) (.int .i64 (j : Int))).run Yba.prog V = .ok (.pointer (some ⟨b, o + j, none⟩)) V := by
    obtain ⟨fuel, hf⟩ := h1
    rcases open_ints Yba.underlying23 Yba.underlying26 (by kernel_rfl) hf with ⟨hcs, _⟩ | ⟨x, l, c, zs, hcs, _, hl, hm, hz, _, hcell, hwz⟩
    · simp [Value.cells] at hcs
      obtain ⟨rfl, rfl, rfl⟩ := hcs
      exact ⟨[], 0, 0, rfl, Nat.zero_le _, fun x hx => by simp at hx, fun j hj => by simp at hj⟩
    · simp [Value.cells] at hcs
      obtain ⟨rfl, rfl, rfl⟩ := hcs
      simp only [if_true] at hz
      have hlen : (zs.take len1).length = len1 := by simp; omega
      obtain ⟨b, o, hb⟩ := src_of (w := W) (a := x) (n := len1) (c := cap1) (t := 23) (e := 26) (f := fun i => .int .i8 ((zs.take len1).getD i 0)) Yba.underlying23 size26 (fun i hi => by
        rw [hcell i (by omega)]; simp [List.getD, hi])
      exact ⟨zs.take len1, b, o, hlen, by omega, fun x hx => wf_i8 (hwz x (List.mem_of_mem_take hx)), fun j hj => by rw [hlen] at hj ⊢; exact hb j hj⟩
  obtain ⟨ln, b2, o2, hl2, hm2, hr2, w2⟩ : ∃ (zs : List Int) (b o : Nat), zs.length = len2 ∧ len2 ≤ maxLen ∧ (∀ x ∈ zs, 0 ≤ x ∧ x ≤ 255) ∧ ∀ j, j < zs.length → b < W.heap.size ∧ W.cell? ⟨b, o + j, none⟩ = some (.int .u8 (zs.getD j 0)) ∧ ∀ V, (Instr.indexAt 24 (.slice a2 zs.length cap2) (.int .i64 (j : Int))).run Yba.prog V = .ok (.pointer (some ⟨b, o + j, none⟩)) V := by
    obtain ⟨fuel, hf⟩ := h2
    rcases open_ints Yba.underlying24 Yba.underlying5 (by kernel_rfl) hf with ⟨hcs, _⟩ | ⟨x, l, c, zs, hcs, _, hl, hm, hz, _, hcell, hwz⟩
    · simp [Value.cells] at hcs
      obtain ⟨rfl, rfl, rfl⟩ := hcs
      exact ⟨[], 0, 0, rfl, Nat.zero_le _, fun x hx => by simp at hx, fun j hj => by simp at hj⟩
    · simp [Value.cells] at hcs
      obtain ⟨rfl, rfl, rfl⟩ := hcs
      simp only [if_true] at hz
      have hlen : (zs.take len2).length = len2 := by simp; omega
      obtain ⟨b, o, hb⟩ := src_of (w := W) (a := x) (n := len2) (c := cap2) (t := 24) (e := 5) (f := fun i => .int .u8 ((zs.take len2).getD i 0)) Yba.underlying24 size5 (fun i hi => by
        rw [hcell i (by omega)]; simp [List.getD, hi])
      exact ⟨zs.take len2, b, o, hlen, by omega, fun x hx => wf_u8 (hwz x (List.mem_of_mem_take hx)), fun j hj => by rw [hlen] at hj ⊢; exact hb j hj⟩
  clear hA0 hval0
  have main : Calls Yba.prog 3 #[.slice a0 len0 cap0, .slice a1 len1 cap1, .slice a2 len2 cap2] W fun e w' => e = .returned (.bool true) ∧ Below W.heap.size W w' := by
    by_cases hn : len0 ≤ 1024
    · rw [← hl0, ← hl1, ← hl2]
      exact law a0 a1 a2 cap0 cap1 cap2 b0 o0 b1 o1 b2 o2 bs st ln W (by omega) hr1 hr2 (by omega) (by omega) w0 w1 w2
    · exact long a0 len0 cap0 _ _ W (by omega) hm0
  refine main.mono fun e W' ⟨he, bel⟩ => ?_
  subst he
  exact ⟨_, rfl, _, _, _, [], _, [], hW', trodAll_mk1 (shut_bool Yba.underlying4 _), (trodAll_cons_mk (Below.trod laidOut (by kernel_rfl) (of_decide_eq_true (by kernel_rfl)) k0 bel lt0) (trodAll_cons_mk (Below.trod laidOut (by kernel_rfl) (of_decide_eq_true (by kernel_rfl)) k1 bel lt1) (trodAll_cons_mk (Below.trod laidOut (by kernel_rfl) (of_decide_eq_true (by kernel_rfl)) k2 bel lt2) trodAll_mk0))), rfl, bel.frame _, fun h => by cases h⟩

theorem over : Rows.lawS3761BFirstMatchedRow.holds Yba.pinned (OpenSpec.ofChange Rows.lawS3761BFirstMatchedSpec) :=
  OpenClaim.holds_of_wide 3 Yba.f3 rfl rfl rfl rfl rfl rfl rfl ⟨rfl, rfl, rfl, rfl, rfl⟩ rfl rfl rfl rfl rfl (by kernel_rfl) Yba.func3 (by kernel_rfl)
    (of_decide_eq_true (by kernel_rfl)) (by unfold Func.isWrapper; first | (rw [if_pos (by decide +kernel)]; kernel_rfl) | (rw [if_neg (by decide +kernel)]; exact ⟨rfl, rfl⟩))
    (fun os started H enc _ => lifted os started H enc)

end Go.Proofs.Ybulkbywe.lawS3761BFirstMatched
namespace Go.Proofs.Ybulkbywe

/-- THE STATEMENT -/
theorem lawS3761BFirstMatched_proved : Rows.LawS3761BFirstMatchedSaid := lawS3761BFirstMatched.over
end Go.Proofs.Ybulkbywe
