import Derived.Test.YbulkbyweFmtLw3
import Derived.Test.YbulkbyweFmtRows
import Derived.ProofKit
import Derived.OpenShut
import Derived.ShutString
import Derived.ChangeOld
import Derived.Deep.Grids
import Derived.Stop.JoinedAt
import Derived.Stop.Texts
import Derived.Stop.JoinedTold
import Derived.Stop.FmtTextKit
import Derived.Stop.FmtTextVerbs
import Derived.SizedLaws
namespace Go.Proofs.YbulkbyweFmt
open Go.ChangeShapes Go.WideShapes Go.ChangeAt Go.RowKit Go.Deep Go.Kit
open Go.Extern.Stop Go.Stop Go.Extern

theorem Ybaf.own : ownKnob Ybaf.prog.godebug = none := by kernel_rfl
theorem Ybaf.laidOut : laidOutB Ybaf.prog = true := by kernel_rfl

/-- What the walk is told of a slice: where its elements lie, and that indexing it leads there. -/
theorem src_of {w : World} {a : Addr} {n c : Nat} {t e : TypeId} {f : Nat → Value} (ht : Ybaf.prog.underlying t = some (.slice e)) (he : ∀ W, (sizeOf e).run Ybaf.prog W = .ok 1 W) (h : ∀ i, i < n → w.cell? (a.add i) = some (f i)) :
    ∃ b o, ∀ j, j < n → b < w.heap.size ∧ w.cell? ⟨b, o + j, none⟩ = some (f j) ∧ ∀ W, (Instr.indexAt t (.slice (some a) n c) (.int .i64 (j : Int))).run Ybaf.prog W = .ok (.pointer (some ⟨b, o + j, none⟩)) W := by
  by_cases h0 : n = 0
  · subst h0; exact ⟨0, 0, fun j hj => by omega⟩
  · obtain ⟨b, off, spot⟩ := a
    have hspot : spot = none := by simpa [Addr.add] using World.cell?_spot (h 0 (by omega))
    subst hspot
    refine ⟨b, off, fun j hj => ?_⟩
    have hc := h j hj
    rw [Addr.add_lit] at hc
    refine ⟨block_lt_of_cell hc, hc, fun W => ?_⟩
    simp [Instr.indexAt, run_underlying ht, asIntOf, he, hj, Addr.add_lit]

theorem size60 (W : World) : (sizeOf 60).run Ybaf.prog W = .ok 1 W := by kernel_rfl

theorem wf_u64 {x : Int} (h : (Lit.int .u64 x).wf = true) : 0 ≤ x ∧ x ≤ 18446744073709551615 := by
  have e1 : IntKind.u64.min = 0 := by decide
  have e2 : IntKind.u64.max = 18446744073709551615 := by decide
  simp only [Lit.wf, Bool.and_eq_true, decide_eq_true_eq, e1, e2] at h
  exact h

-- "%s:%d"
theorem t_parse : (FmtText.parse [37, 115, 58, 37, 100]).map FmtText.glue = some [.verb {} 115, .lit [58], .verb {} 100] := by rfl

theorem t_text (nm : List UInt8) (x : Int) (hs : nm.length < 2 ^ 64) (hw : (Lit.int .u64 x).wf = true) : FmtText.text "fmt.Sprintf" (sReading nm x) = some (nm ++ [58] ++ Lib.itoa x) := by
  have hi := FmtText.operand_int_at (sh := Ybaf.shape60) (k := .u64) rfl rfl x hw
  have hn := FmtText.operand_str_at (sh := Ybaf.shape9) rfl rfl nm hs
  rw [sReading, FmtText.text_sprintf_glued t_parse (FmtText.operands_cons hn (FmtText.operands_cons hi FmtText.operands_nil))]
  simp [FmtText.render, FmtText.printArg_d _ _ hw, FmtText.printArg_s_str]

theorem tx_size (F : Interp) (k x : Nat) (hx : x < 18446744073709551616) : (tx F.told (hostS k) x).size ≤ 1000 := by
  have hw : (Lit.int .u64 (x : Int)).wf = true := by
    have e1 : IntKind.u64.min = 0 := by decide
    have e2 : IntKind.u64.max = 18446744073709551615 := by decide
    simp only [Lit.wf, Bool.and_eq_true, decide_eq_true_eq, e1, e2]
    omega
  have hl : (hostS k).data.toList.length = 1 := by unfold hostS; split <;> rfl
  have hi := FmtText.itoa_length_le hw
  have ht := told_string F (t_text (hostS k).data.toList x (by omega) hw) (by have hz := hostS_len k; simp; omega)
  have e : (tx F.told (hostS k) x).data.toList = (hostS k).data.toList ++ [58] ++ Lib.itoa x := by
    unfold tx
    rw [textOf_list, ht]
  have := congrArg List.length e
  simp at this
  have e2 : (tx F.told (hostS k) x).size = (tx F.told (hostS k) x).data.size := rfl
  simp at hl
  omega

set_option maxRecDepth 100000 in
/-- More than 512 places: nothing is done. -/
theorem long0 (a0 : Option Addr) (n c0 : Nat) (v1 v2 : Value) (w : World) (hn : 512 < n) (hm : n ≤ maxLen) :
    Calls Ybaf.prog 3 #[.slice a0 n c0, v1, v2] w fun e w' => e = .returned (.bool true) ∧ Fr (fun _ => False) w w' := by
  unfold maxLen at hm
  have h1 : (512 : Int) < (n : Int) := by omega
  have h2 : decide (512 < n) = true := by simpa using hn
  go_enter Ybaf.func3, Ybaf.ntmps3
  go_wp2
  go_ret
  exact ⟨rfl, Fr.refl _ _⟩

set_option maxRecDepth 100000 in
theorem long1 (a0 a1 : Option Addr) (n c0 n1 c1 : Nat) (v2 : Value) (w : World) (hn : ¬ 512 < n) (hn1 : 512 < n1) (hm : n1 ≤ maxLen) :
    Calls Ybaf.prog 3 #[.slice a0 n c0, .slice a1 n1 c1, v2] w fun e w' => e = .returned (.bool true) ∧ Fr (fun _ => False) w w' := by
  unfold maxLen at hm
  have h1 : ¬ (512 : Int) < (n : Int) := by omega
  have h2 : decide (512 < n) = false := by simpa using hn
  have h3 : (512 : Int) < (n1 : Int) := by omega
  have h4 : decide (512 < n1) = true := by simpa using hn1
  go_enter Ybaf.func3, Ybaf.ntmps3
  go_wp2
  go_ret
  exact ⟨rfl, Fr.refl _ _⟩

/-- A slice of places that came in. -/
theorem src22 {H : Type} {enc : TypeId × Value → H} {W : World} {a : Option Addr} {len cap : Nat} {d : DataW H} {ps : List MemPlace} (h : DataW.Trod enc Ybaf.prog W 0 (fun _ => true) true 22 (.slice a len cap) d ps) :
    len ≤ maxLen ∧ ∃ (b o : Nat) (z : Nat → Nat), ∀ j, j < len → (b < W.heap.size ∧ W.cell? ⟨b, o + j, none⟩ = some (.int .u64 (z j)) ∧ ∀ V, (Instr.indexAt 22 (.slice a len cap) (.int .i64 (j : Int))).run Ybaf.prog V = .ok (.pointer (some ⟨b, o + j, none⟩)) V) ∧ z j < 18446744073709551616 := by
  obtain ⟨fuel, hf⟩ := h
  rcases open_ints Ybaf.underlying22 Ybaf.underlying60 (by kernel_rfl) hf with ⟨hcs, _⟩ | ⟨x, l, c, zs, hcs, _, hl, hm, hz, _, hcell, hwz⟩
  · simp [Value.cells] at hcs
    obtain ⟨rfl, rfl, rfl⟩ := hcs
    exact ⟨Nat.zero_le _, 0, 0, fun _ => 0, fun j hj => by omega⟩
  · simp [Value.cells] at hcs
    obtain ⟨rfl, rfl, rfl⟩ := hcs
    simp only [if_true] at hz
    have hr : ∀ j, j < len → 0 ≤ zs.getD j 0 ∧ zs.getD j 0 ≤ 18446744073709551615 := fun j hj => by
      have hj' : j < zs.length := by omega
      rw [List.getD_eq_getElem?_getD, List.getElem?_eq_getElem hj']
      exact wf_u64 (hwz _ (List.getElem_mem hj'))
    obtain ⟨b, o, hb⟩ := src_of (w := W) (a := x) (n := len) (c := cap) (t := 22) (e := 60) (f := fun i => .int .u64 (((zs.getD i 0).toNat : Nat) : Int)) Ybaf.underlying22 size60 (fun i hi => by
      rw [hcell i (by omega)]
      have := hr i hi
      rw [Int.toNat_of_nonneg this.1])
    exact ⟨by omega, b, o, fun i => (zs.getD i 0).toNat, fun j hj => ⟨hb j hj, by have := hr j hj; show (zs.getD j 0).toNat < _; omega⟩⟩

set_option maxRecDepth 100000 in
theorem lifted (hix : ∀ F : Interp, IndexSaid F) (os : Os) (started : os.Started) (H : Type) (enc : TypeId × Value → H) :
    ReturnsInTold none {} Ybaf.checked os 3 .any Input.okWide ((OpenSpec.ofChange Rows.lawS3761AIndexSpec).preRow enc Ybaf.prog Ybaf.f3 [] false []) (fun F => ((OpenSpec.ofChange Rows.lawS3761AIndexSpec).at F).post enc Ybaf.prog Ybaf.f3 false true false false) (aloneAtReturn Ybaf.prog) nothingAlways := by
  refine returnsInTold_of_row (C := Ybaf.checked) (s := OpenSpec.ofChange Rows.lawS3761AIndexSpec) (by kernel_rfl) Ybaf.own started (by kernel_rfl) Ybaf.func3
    (OpenSpec.witness_stopped (enc := enc) (C := Ybaf.checked) false ⟨#[], #[.slice none 0 0, .slice none 0 0, .bool false], []⟩ 8 (by kernel_rfl) (by kernel_rfl) (by kernel_rfl) (by kernel_rfl)) ?_
  intro F W base args ds gs before _ hF hval0 hW _ _ hsz _ _
  have hval : ∀ (j : Nat) t v, Ybaf.f3.params[j]? = some t → args[j]? = some v → Value.okWide Ybaf.prog W .any base t v := hval0
  have hW' := hW
  obtain ⟨p, q, hA0, hV, rfl, hfz, hnd⟩ := hW
  have hA : DataW.TrodAll enc Ybaf.prog W 0 (fun _ => true) true Ybaf.f3.params.toList args.toList ds p := hA0
  rw [Ybaf.params3] at hA hval
  obtain ⟨v0, vs0, d0, ds0, p0, q0, hargs, rfl, rfl, h0, r0⟩ := trodAll_cons hA
  obtain ⟨v1, vs1, d1, ds1, p1, q1, rfl, rfl, rfl, h1, r1⟩ := trodAll_cons r0
  obtain ⟨v2, vs2, d2, ds2, p2, q2, rfl, rfl, rfl, h2, r2⟩ := trodAll_cons r1
  obtain ⟨rfl, rfl, rfl⟩ := trodAll_nil r2
  obtain rfl : args = #[v0, v1, v2] := by cases args; simp_all
  obtain ⟨rfl, rfl⟩ := trodVars_none hV
  obtain ⟨a0, len0, cap0, rfl⟩ := okWide_slice Ybaf.underlying22 (hval 0 22 v0 rfl rfl)
  obtain ⟨a1, len1, cap1, rfl⟩ := okWide_slice Ybaf.underlying22 (hval 1 22 v1 rfl rfl)
  obtain ⟨sk, rfl, rfl, rfl⟩ := open_bool Ybaf.underlying4 (hval 2 4 v2 rfl rfl) h2
  have k0 := h0
  have k1 := h1
  have lt0 : ∀ x ∈ p0, x.block < W.heap.size := by obtain ⟨m, hm⟩ := k0; exact DataW.trod_lt m _ _ _ hm
  have lt1 : ∀ x ∈ p1, x.block < W.heap.size := by obtain ⟨m, hm⟩ := k1; exact DataW.trod_lt m _ _ _ hm
  obtain ⟨hm0, b0, o0, z0, s0⟩ := src22 h0
  obtain ⟨hm1, b1, o1, z1, s1⟩ := src22 h1
  clear hA0 hval0
  have main : Calls Ybaf.prog 3 #[.slice a0 len0 cap0, .slice a1 len1 cap1, .bool sk] W fun e w' => e = .returned (.bool true) ∧ Fr (fun _ => False) W w' := by
    by_cases hn : 512 < len0
    · exact long0 a0 len0 cap0 _ _ W hn hm0
    · by_cases hn1 : 512 < len1
      · exact long1 a0 a1 len0 cap0 len1 cap1 _ W hn hn1 hm1
      · exact law3_main F.told (hix F.told) W hF (fun k x _ hx => tx_size F k x hx) a0 a1 len0 cap0 b0 o0 len1 cap1 b1 o1 W.heap.size z0 z1 sk ⟨fun j hj => (s0 j hj).1, fun j hj => (s0 j hj).2, by omega⟩ ⟨fun j hj => (s1 j hj).1, fun j hj => (s1 j hj).2, by omega⟩ (Nat.le_refl _)
  refine main.mono fun e W' ⟨he, fr⟩ => ?_
  subst he
  have bel : Below W.heap.size W W' := fr.toBelow (Nat.le_refl _) (by simp)
  exact ⟨_, rfl, _, _, _, [], _, [], hW', trodAll_mk1 (shut_bool Ybaf.underlying4 _), (trodAll_cons_mk (Below.trod Ybaf.laidOut (by kernel_rfl) (of_decide_eq_true (by kernel_rfl)) k0 bel lt0) (trodAll_cons_mk (Below.trod Ybaf.laidOut (by kernel_rfl) (of_decide_eq_true (by kernel_rfl)) k1 bel lt1) (trodAll_cons_mk (shut_bool Ybaf.underlying4 _) trodAll_mk0))), rfl, bel.frame _, fun h => by cases h⟩
end Go.Proofs.YbulkbyweFmt
