import Derived.Test.YbulkbyweFmtNxC
import Derived.LaidEqlPtr
namespace Go.Proofs.YbulkbyweFmt
open Go.Shelf Go.RowKit Go.Lib Go.Proofs

theorem Ybaf.info67 : (Ybaf.prog.info? 67).map (fun i => (i.size)) = some 13 := by kernel_rfl

/-- Two pointers to blocks. -/
theorem ptr_neq {w : World} {b : Nat} {v0 : Option Addr} (hb : ∃ cs : Array Value, w.heap[b]? = some (.cells cs 67 (0, 0))) (hv : v0 = none ∨ ∃ b' cs, v0 = some ⟨b', 0, none⟩ ∧ b' ≠ b ∧ w.heap[b']? = some (.cells cs 67 (0, 0))) :
    (binOp BinOp.neq 63 (.pointer v0) (.pointer (some ⟨b, 0, none⟩))).run Ybaf.prog w = .ok (.bool true) w := by
  have u := Ybaf.underlying63
  obtain ⟨i, hi, hs⟩ : ∃ i, Ybaf.prog.info? 67 = some i ∧ i.size = 13 := by
    have h := Ybaf.info67
    cases hx : Ybaf.prog.info? 67 with
    | none => rw [hx] at h; cases h
    | some i => rw [hx] at h; exact ⟨i, rfl, by simpa using h⟩
  have h : ∀ d : Nat, (Op.equalIn (d + 1) 63 (.pointer v0) (.pointer (some ⟨b, 0, none⟩))).run Ybaf.prog w = .ok false w := fun d => by
    rcases hv with rfl | ⟨b', cs, rfl, hne, hc⟩
    · simp [Op.equalIn, run_underlying u]
    · obtain ⟨cb, hb⟩ := hb
      have := run_sameAddr_other (P := Ybaf.prog) w (a := ⟨b', 0, none⟩) (b := ⟨b, 0, none⟩) (by intro e; injection e; omega) hc hb
      simp [Op.equalIn, run_underlying u, sizeOf, typeInfo, hi, hs, this]
  simp only [binOp]
  simp [Op.equal, Op.maxDepth, h 9999]

set_option maxHeartbeats 1000000 in
set_option maxRecDepth 100000 in
theorem seek22_of (c ro b i h x bi bd bm n cd : Nat) (B : Nat → Value) (w : World) (R : Rec w c ro 14 B) (K : Blk w b i h x bi bd bm n cd) (v0 : Option Addr)
    (h0 : B 0 = .pointer v0) (hv : v0 = none ∨ ∃ b' cs, v0 = some ⟨b', 0, none⟩ ∧ b' ≠ b ∧ w.heap[b']? = some (.cells cs 67 (0, 0))) (Post : World → Prop)
    (hnext : ∀ W, Rec W c ro 14 (updB (updB (updB B 0 (.pointer (some ⟨b, 0, none⟩))) 1 (.int .i64 (-1))) 2 (.int .i64 0)) → Fr (fun k => k = c) w W → Out c ro w W →
      Calls Ybaf.prog 24 #[.pointer (some ⟨c, ro, none⟩)] W fun e w' => e = .returned (.tuple #[]) ∧ Post w' ∧ w'.cell? ⟨c, ro + 1, none⟩ = some (.int .i64 0)) :
    Calls Ybaf.prog 22 #[.pointer (some ⟨c, ro, none⟩), .pointer (some ⟨b, 0, none⟩), .int .i64 0] w fun e w' => e = .returned (.tuple #[]) ∧ Post w' := by
  have mixed := Ybaf.laysUv.mixed
  have c0 := R.at 0 (by omega) (a := ro) (by omega) h0
  have c1 := R.cell 1 (by omega)
  have c2 := R.cell 2 (by omega)
  have f0 := R.nf 0 (by omega) (a := ro) (by omega)
  have f1 := R.nf 1 (by omega) (a := ro + 1) rfl
  have f2 := R.nf 2 (by omega) (a := ro + 2) rfl
  have dm := K.marks
  have dm0 := K.mk0
  have hbin := ptr_neq K.obj hv
  have R0 : Aside _ := R
  have N0 : Aside _ := hnext
  clear R K hnext
  go_enter Ybaf.func22, Ybaf.ntmps22
  go_wp2
  have RW : Aside (Rec (((w.setCell ⟨c, ro, none⟩ (.pointer (some ⟨b, 0, none⟩))).setCell ⟨c, ro + 1, none⟩ (.int .i64 (-1))).setCell ⟨c, ro + 2, none⟩ (.int .i64 0)) c ro 14 (updB (updB (updB B 0 (.pointer (some ⟨b, 0, none⟩))) 1 (.int .i64 (-1))) 2 (.int .i64 0))) :=
    ((R0.out.set' 0 (by omega) _ (by omega) _).set' 1 (by omega) _ rfl _).set' 2 (by omega) _ rfl _
  have FW : Aside (Fr (fun k => k = c) w (((w.setCell ⟨c, ro, none⟩ (.pointer (some ⟨b, 0, none⟩))).setCell ⟨c, ro + 1, none⟩ (.int .i64 (-1))).setCell ⟨c, ro + 2, none⟩ (.int .i64 0))) :=
    (((Fr.refl (fun k => k = c) w).set' ⟨c, ro, none⟩ _ rfl).set' ⟨c, ro + 1, none⟩ _ rfl).set' ⟨c, ro + 2, none⟩ _ rfl
  have OW : Aside (Out c ro w (((w.setCell ⟨c, ro, none⟩ (.pointer (some ⟨b, 0, none⟩))).setCell ⟨c, ro + 1, none⟩ (.int .i64 (-1))).setCell ⟨c, ro + 2, none⟩ (.int .i64 0))) :=
    (((Out.refl c ro w).set _ (by omega) (by omega) _).set _ (by omega) (by omega) _).set _ (by omega) (by omega) _
  generalize ((w.setCell ⟨c, ro, none⟩ (.pointer (some ⟨b, 0, none⟩))).setCell ⟨c, ro + 1, none⟩ (.int .i64 (-1))).setCell ⟨c, ro + 2, none⟩ (.int .i64 0) = w1 at RW FW OW ⊢
  go_loopg [] 1 (fun kx wr => ∃ s : Nat, s ≤ 1 ∧ 1 - s ≤ kx ∧ Aside (s = 0 → wr = w1) ∧ Aside (s = 1 → Post wr ∧ wr.cell? ⟨c, ro + 1, none⟩ = some (.int .i64 0)))
  case atStart => exact ⟨0, by omega, by omega, fun _ => rfl, fun h => absurd h (by omega)⟩
  case round =>
    obtain ⟨s, hs, hkx, D0, D1⟩ := hrel
    clear c0 c1 c2 f0 f1 f2 dm dm0 hbin
    by_cases hs0 : s = 0
    · obtain rfl := D0.out hs0
      have c1 := RW.out.at 1 (by omega) (a := ro + 1) rfl (v := .int .i64 (-1)) rfl
      have hcon := N0.out _ RW.out FW.out OW.out
      go_wp2_with (go_at_call 24; refine hcon.mono ?_; rintro e w' ⟨rfl, P1, P2⟩)
      go_roundg 0
      case measure => omega
      case rel => exact ⟨1, by omega, by omega, fun h => absurd h (by omega), fun _ => ⟨P1, P2⟩⟩
    · have P := D1.out (by omega)
      have c1 := P.2
      go_wp2
      go_end0
      exact ⟨rfl, P.1⟩

/-- reader.seek, where clocks are read. -/
theorem seekW (c ro b i h x bi bd bm n cd p L C : Nat) (base kb : Option Addr) (l ck : Nat) (B : Nat → Value) (w : World) (R : Rec w c ro 14 B) (K : Blk w b i h x bi bd bm n cd) (A : AtS w p base L C) (CK : CkS w kb l ck) (hh : h = 0 ∨ h = 1) (hL : L ≤ 16) (v0 : Option Addr)
    (h0 : B 0 = .pointer v0) (hv : v0 = none ∨ ∃ b' cs, v0 = some ⟨b', 0, none⟩ ∧ b' ≠ b ∧ w.heap[b']? = some (.cells cs 67 (0, 0)))
    (h6 : B 6 = .slice kb l ck) (h8 : B 8 = .int .u8 1) (h13 : B 13 = .pointer (some ⟨p, 0, none⟩))
    (hcb : c ≠ b) (hcd : c ≠ bd) (hcbi : c ≠ bi) (hcm : c ≠ bm) (hcp : c ≠ p) (hpb : p ≠ b) (hpbi : p ≠ bi) (ha : ∀ g, AtB base g → g ≠ c ∧ g ≠ p ∧ g ≠ b ∧ g ≠ bi)
    (hkb : ∀ g, AtB kb g → g ≠ c ∧ g ≠ p ∧ g ≠ b ∧ g ≠ bi ∧ g ≠ bd ∧ g ≠ bm ∧ ¬ AtB base g) :
    Calls Ybaf.prog 22 #[.pointer (some ⟨c, ro, none⟩), .pointer (some ⟨b, 0, none⟩), .int .i64 0] w fun e w' => e = .returned (.tuple #[]) ∧
      ∃ k ck' base' L' C' B', NxW w w' c ro b p k ck' h x kb base base' L' C' (updB B 0 (.pointer (some ⟨b, 0, none⟩))) B' := by
  refine seek22_of c ro b i h x bi bd bm n cd B w R K v0 h0 hv (fun w' => ∃ k ck' base' L' C' B', NxW w w' c ro b p k ck' h x kb base base' L' C' (updB B 0 (.pointer (some ⟨b, 0, none⟩))) B') fun W RW FW OW => ?_
  have KW := K.fr FW (Ne.symm hcb) (Ne.symm hcbi) (Ne.symm hcd) (Ne.symm hcm)
  have AW := A.fr FW (Ne.symm hcp) (fun g hg => (ha g hg).1)
  have CW := CK.fr FW fun g hg => (hkb g hg).1
  refine (next24_where c ro b i h x bi bd bm n cd p L C base _ W RW KW AW hh hL rfl rfl rfl kb l ck h6 CW h8 h13 hcb hcd hcbi hcm hcp hpb hpbi ha hkb).mono ?_
  rintro e w' ⟨rfl, k, ck', base', L', C', B', N⟩
  have hsz := FW.size
  refine ⟨rfl, ⟨k, ck', base', L', C', B', N.rcd, N.b0, N.b1, N.b6, fun j j1 j2 j6 j7 => ?_, N.st, N.le, fun g hg => (N.own g hg).imp id (fun e => by omega), N.row, N.ck, N.kown.imp id (fun e => by omega), N.k0, N.k1, N.dis, ?_, OW.trans N.out⟩, ?_⟩
  · rw [N.oth j j1 j2 j6 j7]; simp [updB, j1, j2]
  · exact FW.trans N.fr (fun _ h => Or.inl h) (fun _ _ h => h)
  · have := N.rcd.at 1 (by omega) (a := ro + 1) rfl N.b1
    exact this

/-- reader.seek, where clocks are passed over. -/
theorem seekC (c ro b i h x bi bd bm n cd : Nat) (B : Nat → Value) (w : World) (R : Rec w c ro 14 B) (K : Blk w b i h x bi bd bm n cd) (hi : i < 4294967296)
    (h0 : B 0 = .pointer none) (h6 : B 6 = .slice none 0 0) (h8 : B 8 = .int .u8 2) (hcb : c ≠ b) (hcd : c ≠ bd) (hcbi : c ≠ bi) (hcm : c ≠ bm) :
    Calls Ybaf.prog 22 #[.pointer (some ⟨c, ro, none⟩), .pointer (some ⟨b, 0, none⟩), .int .i64 0] w fun e w' => e = .returned (.tuple #[]) ∧
      ∃ B', Rec w' c ro 14 B' ∧ B' 0 = .pointer (some ⟨b, 0, none⟩) ∧ B' 5 = .int .i64 ((i + 1 : Nat) : Int) ∧ Fr (fun k => k = c) w w' := by
  refine seek22_of c ro b i h x bi bd bm n cd B w R K none h0 (Or.inl rfl) (fun w' => ∃ B', Rec w' c ro 14 B' ∧ B' 0 = .pointer (some ⟨b, 0, none⟩) ∧ B' 5 = .int .i64 ((i + 1 : Nat) : Int) ∧ Fr (fun k => k = c) w w') fun W RW FW _ => ?_
  have KW := K.fr FW (Ne.symm hcb) (Ne.symm hcbi) (Ne.symm hcd) (Ne.symm hcm)
  refine (next24_clocks c ro b i h x bi bd bm n cd _ W RW KW hi rfl rfl rfl h6 h8 hcb hcd hcbi hcm).mono ?_
  rintro e w' ⟨rfl, B', R', b0, b1, b5, F'⟩
  exact ⟨rfl, ⟨B', R', b0, b5, FW.trans F' (fun _ h => h) (fun _ _ h => h)⟩, R'.at 1 (by omega) (a := ro + 1) rfl b1⟩
end Go.Proofs.YbulkbyweFmt
