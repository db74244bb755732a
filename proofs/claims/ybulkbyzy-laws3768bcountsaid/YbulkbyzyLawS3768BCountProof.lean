/-
  'Rows.LawS3768BCountSaid' PROVED. The walk: YbulkbyzyCount.lean; the frame below: the seat's shell, its slice opened for that walk.
-/
import Derived.Test.YbulkbyzyCount
import Derived.WalkKit
import Derived.ProofKit
import Derived.OpenShut
import Derived.ShutString
import Derived.ChangeOld
import Derived.Below
namespace Go.Proofs.Ybulkbyzy.lawS3768BCount
open Go.ChangeShapes Go.WideShapes Go.ChangeAt Go.RowKit
open Go.ChangeMaps (open_string shut_string)
set_option linter.unusedVariables false

theorem own : ownKnob Yba.prog.godebug = none := by kernel_rfl
theorem laidOut : laidOutB Yba.prog = true := by kernel_rfl

/-- What the walk is told of a slice: where its elements lie, and that indexing it leads there. -/
theorem src_of {w : World} {a : Addr} {n c : Nat} {t e : TypeId} {f : Nat → Value} (ht : Yba.prog.underlying t = some (.slice e)) (he : ∀ W, (sizeOf e).run Yba.prog W = .ok 1 W) (h : ∀ i, i < n → w.cell? (a.add i) = some (f i)) :
    ∃ b o, ∀ j, j < n → b < w.heap.size ∧ w.cell? ⟨b, o + j, none⟩ = some (f j) ∧ ∀ W, (Instr.indexAt t (.slice (some a) n c) (.int .i64 (j : Int))).run Yba.prog W = .ok (.pointer (some ⟨b, o + j, none⟩)) W := by
  by_cases h0 : n = 0
  · subst h0; exact ⟨0, 0, fun j hj => by omega⟩
  · obtain ⟨b, off, spot⟩ := a
    have hspot : spot = none := by simpa [Addr.add] using World.cell?_spot (h 0 (by omega))
    subst hspot
    refine ⟨b, off, fun j hj => ?_⟩
    have hc := h j hj
    rw [Addr.add_lit] at hc
    refine ⟨block_lt_of_cell hc, hc, fun W => ?_⟩
    simp [Instr.indexAt, run_underlying ht, asIntOf, he, hj, Addr.add_lit]

theorem size5 (W : World) : (sizeOf 5).run Yba.prog W = .ok 1 W := by kernel_rfl
theorem wf_u8 {x : Int} (h : (Lit.int .u8 x).wf = true) : 0 ≤ x ∧ x ≤ 255 := by
  have e1 : IntKind.u8.min = 0 := by decide
  have e2 : IntKind.u8.max = 255 := by decide
  simp only [Lit.wf, Bool.and_eq_true, decide_eq_true_eq, e1, e2] at h
  exact h

/-! ### THE ROW's STEP: WRITTEN OUT: LEAVE IT -/
set_option maxRecDepth 100000 in
theorem lifted (os : Os) (started : os.Started) (H : Type) (enc : TypeId × Value → H) :
    ReturnsInHanded {} Yba.checked os 3 .any (Rows.lawS3768BCountSpec.pre6 enc Yba.prog Yba.f3 Rows.lawS3768BCountRow.domain false) (Rows.lawS3768BCountSpec.post enc Yba.prog Yba.f3 false true false false) := by
  refine returnsInHanded_of_change (C := Yba.checked) own started (by kernel_rfl) Yba.func3
    (ChangeSpec.witness6 (enc := enc) (C := Yba.checked) false ⟨#[], #[.slice none 0 0, .int .i8 0, .int .i8 0], []⟩ 8 (by kernel_rfl) (by kernel_rfl) (by kernel_rfl) (by kernel_rfl)) ?_
  intro W base args ds gs before hval0 hW hcnd _
  have hval : ∀ (j : Nat) t v, Yba.f3.params[j]? = some t → args[j]? = some v → Value.okWide Yba.prog W .any base t v := hval0
  have hW' := hW
  obtain ⟨p, q, hA0, hV, rfl, hfz, hnd⟩ := hW
  have hA : DataW.TrodAll enc Yba.prog W 0 (fun _ => true) true Yba.f3.params.toList args.toList ds p := hA0
  rw [Yba.params3] at hA hval
  obtain ⟨v0, vs0, d0, ds0, p0, q0, hargs, rfl, rfl, h0, r0⟩ := trodAll_cons hA
  obtain ⟨v1, vs1, d1, ds1, p1, q1, rfl, rfl, rfl, h1, r1⟩ := trodAll_cons r0
  obtain ⟨v2, vs2, d2, ds2, p2, q2, rfl, rfl, rfl, h2, r2⟩ := trodAll_cons r1
  obtain ⟨rfl, rfl, rfl⟩ := trodAll_nil r2
  obtain rfl : args = #[v0, v1, v2] := by cases args; simp_all
  obtain ⟨rfl, rfl⟩ := trodVars_none hV
  obtain ⟨a0, len0, cap0, rfl⟩ := okWide_slice Yba.underlying22 (hval 0 22 v0 rfl rfl)
  have k0 := h0
  have lt0 : ∀ x ∈ p0, x.block < W.heap.size := by obtain ⟨m, hm⟩ := k0; exact DataW.trod_lt m _ _ _ hm
  obtain ⟨zs, b0, o0, hm0, hz0, w0⟩ : ∃ (zs : List Int) (b o : Nat), len0 ≤ maxLen ∧ (∀ j, j < len0 → 0 ≤ zs.getD j 0 ∧ zs.getD j 0 ≤ 255) ∧ ∀ j, j < len0 → b < W.heap.size ∧ W.cell? ⟨b, o + j, none⟩ = some (.int .u8 (zs.getD j 0)) ∧ ∀ V, (Instr.indexAt 22 (.slice a0 len0 cap0) (.int .i64 (j : Int))).run Yba.prog V = .ok (.pointer (some ⟨b, o + j, none⟩)) V := by
    obtain ⟨fuel, hf⟩ := h0
    rcases open_ints Yba.underlying22 Yba.underlying5 (by kernel_rfl) hf with ⟨hcs, _⟩ | ⟨x, l, c, zs, hcs, _, hl, hm, hz, _, hcell, hwz⟩
    · simp [Value.cells] at hcs
      obtain ⟨rfl, rfl, rfl⟩ := hcs
      exact ⟨[], 0, 0, Nat.zero_le _, fun j hj => by omega, fun j hj => by omega⟩
    · simp [Value.cells] at hcs
      obtain ⟨rfl, rfl, rfl⟩ := hcs
      simp only [if_true] at hz
      obtain ⟨b, o, hb⟩ := src_of (w := W) (a := x) (n := len0) (c := cap0) (t := 22) (e := 5) (f := fun i => .int .u8 (zs.getD i 0)) Yba.underlying22 size5 (fun i hi => hcell i (by omega))
      refine ⟨zs, b, o, by omega, fun j hj => wf_u8 (hwz _ ?_), hb⟩
      rw [List.getD_eq_getElem?_getD, List.getElem?_eq_getElem (show j < zs.length by omega)]
      exact List.getElem_mem _
  obtain ⟨a1, rfl, rfl, rfl, w1⟩ := open_int Yba.underlying23 (hval 1 23 v1 rfl rfl) h1
  obtain ⟨a2, rfl, rfl, rfl, w2⟩ := open_int Yba.underlying23 (hval 2 23 v2 rfl rfl) h2
  clear hA0 hval0
  refine (count_walk a0 len0 cap0 b0 o0 _ zs a1 a2 W rfl hm0 (fun j hj => hz0 j (by split at hj <;> omega)) w0).mono fun e W' ⟨he, bel⟩ => ?_
  subst he
  exact ⟨_, rfl, _, _, _, [], _, [], hW', trodAll_mk1 (shut_bool Yba.underlying4 _), (trodAll_cons_mk (Below.trod laidOut (by kernel_rfl) (of_decide_eq_true (by kernel_rfl)) k0 bel lt0) (trodAll_cons_mk (shut_int Yba.underlying23 w1) (trodAll_cons_mk (shut_int Yba.underlying23 w2) trodAll_mk0))), rfl, bel.frame _, fun h => by cases h⟩

theorem over : Rows.lawS3768BCountRow.holds Yba.pinned (OpenSpec.ofChange Rows.lawS3768BCountSpec) :=
  OpenClaim.holds_of_wide 3 Yba.f3 rfl rfl rfl rfl rfl rfl rfl ⟨rfl, rfl, rfl, rfl, rfl⟩ rfl rfl rfl rfl rfl (by kernel_rfl) Yba.func3 (by kernel_rfl)
    (of_decide_eq_true (by kernel_rfl)) (by unfold Func.isWrapper; first | (rw [if_pos (by decide +kernel)]; kernel_rfl) | (rw [if_neg (by decide +kernel)]; exact ⟨rfl, rfl⟩))
    (fun os started H enc _ => lifted os started H enc)

end Go.Proofs.Ybulkbyzy.lawS3768BCount
namespace Go.Proofs.Ybulkbyzy

/-- THE STATEMENT -/
theorem lawS3768BCount_proved : Rows.LawS3768BCountSaid := lawS3768BCount.over
end Go.Proofs.Ybulkbyzy
