import Derived.Test.YbulkbyweFmtLw2
import Derived.Laws.AppendOwnNone
namespace Go.Proofs.YbulkbyweFmt
open Go.Shelf Go.RowKit Go.Lib Go.Sort Go.Proofs
open Go.Extern.Stop Go.Stop Go.Extern

theorem cell_at {w : World} {cs : Array Value} {t : TypeId} {s j : Nat} {v : Value} (hs : w.heap.size = s) (hv : cs[j]? = some v) : (w.alloc (.cells cs t)).cell? ⟨s, j, none⟩ = some v := by
  subst hs
  rw [cell_of_row _ w.heap.size _ _ t (0, 0) (heap_alloc_new w _)]
  exact hv

theorem prd_len (d : TD) : (prd d).length ≤ d.n := by
  unfold prd
  split
  · simp
  · exact (scn_len d.sk d.ps d.n d.n).1

theorem pcM_one (l : List (Bool × Nat)) : ∀ u ∈ pcM l, u.oneCell' = true := by
  intro u hu
  simp only [pcM, List.mem_flatMap] at hu
  obtain ⟨x, -, hx⟩ := hu
  simp only [List.mem_cons, List.not_mem_nil, or_false] at hx
  rcases hx with rfl | rfl
  · unfold kindS; split <;> rfl
  · rfl

theorem EqR.fr {kd : IntKind} {w w' : World} {a b : Value} (h : EqR kd w a b) (f : Fr (fun _ => False) w w') : EqR kd w' a b := by
  rcases h with h | ⟨g, g', c, c', n, z, h1, h2, h3, h4, h5⟩
  · exact Or.inl h
  · exact Or.inr ⟨g, g', c, c', n, z, h1, h2, h3, fun j hj => f.cell (h4 j hj) (by simp), fun j hj => f.cell (h5 j hj) (by simp)⟩

theorem eq7_fr (w : World) (a b : Value) (h : EqR .i64 w a b) : Calls Ybaf.prog 7 #[a, b] w fun e w' => e = .returned (.bool true) ∧ Fr (fun _ => False) w w' :=
  (eq7_any w a b h).mono fun e w' ⟨h1, q, h2⟩ => ⟨h1, by rw [h2]; exact Fr.drewN w q⟩
theorem eq8_fr (w : World) (a b : Value) (h : EqR .u64 w a b) : Calls Ybaf.prog 8 #[a, b] w fun e w' => e = .returned (.bool true) ∧ Fr (fun _ => False) w w' :=
  (eq8_any w a b h).mono fun e w' ⟨h1, q, h2⟩ => ⟨h1, by rw [h2]; exact Fr.drewN w q⟩

/-- What stands behind the append. -/
structure Fin (w W : World) (d0 d1 : TD) (pv wv k0 q0 k1 q1 : Value) (L5 : List ((Bool × Nat) × ByteArray)) (H H' : Nat) : Prop where
  row : W.ownsRow H 51 4 pv L5.length (pcI L5)
  want : W.ownsRow H' 53 2 wv L5.length (pcM (L5.map (·.1)))
  len : L5.length ≤ 1024
  e0 : ∃ kt qt, W.cell? ⟨d0.t, 5, none⟩ = some kt ∧ W.cell? ⟨d0.t, 6, none⟩ = some qt ∧ EqR .i64 W kt k0 ∧ EqR .u64 W qt q0
  e1 : ∃ kt qt, W.cell? ⟨d1.t, 5, none⟩ = some kt ∧ W.cell? ⟨d1.t, 6, none⟩ = some qt ∧ EqR .i64 W kt k1 ∧ EqR .u64 W qt q1
  fr : Fr (fun _ => False) w W

theorem fin_of {w w5 w6 w7 W : World} {d0 d1 : TD} {pv p0 k0 q0 p1 k1 q1 wv : Value} {L5 : List ((Bool × Nat) × ByteArray)} {H : Nat} (A : Aft w w5 d0 d1 pv L5 H) (M0 : MR w5 w6 d0 p0 k0 q0) (M1 : MR w6 w7 d1 p1 k1 q1)
    (O : W.ownsRow w5.heap.size 53 2 wv (prd d0 ++ prd d1).length (pcM (prd d0 ++ prd d1))) (f : Fr (fun k => p0.ownBlock = some k) w7 W) : Fin w W d0 d1 pv wv k0 q0 k1 q1 L5 H w5.heap.size := by
  have f57 := M0.fr.trans M1.fr (Z := fun _ => False) (fun _ h => h) (fun _ _ h => h)
  have hp : ∀ k, p0.ownBlock = some k → w5.heap.size ≤ k := fun k hk => (M0.p.lt k hk).1
  have p7 := M1.fr.owns M0.p (by simp)
  have g7 := f57.owns A.row (by simp)
  have lt := A.lt
  refine ⟨f.owns g7 fun k hk hx => absurd ((own_tag g7 k hk).ne (own_tag p7 k hx)) (by decide), ?_, A.len, ?_, ?_, ?_⟩
  · rw [A.map, show L5.length = (prd d0 ++ prd d1).length by rw [← A.map, List.length_map]]; exact O
  · exact A.tr0.eqs A.n2.1 (Fr.refl _ _) M0 (M1.fr.trans f (Z := fun k => p0.ownBlock = some k) (fun _ h => h.elim) (fun _ _ h => h)) (fun k hk => own_tag M0.p k hk) (fun h => by have := hp _ h; omega)
  · exact A.tr1.eqs A.n2.2 M0.fr M1 f (fun k hk => own_tag p7 k hk) (fun h => by have := hp _ h; omega)
  · exact (A.fr.trans f57 (Z := fun _ => False) (fun _ h => h) (fun _ _ h => h)).trans f (fun _ h => h) (fun k hk h => by have := hp k h; have := A.fr.size; omega)

set_option maxHeartbeats 2000000 in
set_option maxRecDepth 100000 in
theorem law3_main (F : Interp) (hix : IndexSaid F) (w : World) (hF : F.answers w.tape) (hT : ∀ k x, k < 2 → x < 18446744073709551616 → (tx F (hostS k) x).size ≤ 1000)
    (av0 av1 : Option Addr) (n0 c0 b0 o0 n1 c1 b1 o1 N : Nat) (ps0 ps1 : Nat → Nat) (sk : Bool) (S0 : SrcAt w av0 n0 c0 b0 o0 N ps0) (S1 : SrcAt w av1 n1 c1 b1 o1 N ps1) (hN : N ≤ w.heap.size) :
    Calls Ybaf.prog 3 #[.slice av0 n0 c0, .slice av1 n1 c1, .bool sk] w fun e w' => e = .returned (.bool true) ∧ Fr (fun _ => False) w w' := by
  have mixed := Ybaf.laysUv.mixed
  have hn0 := S0.n2
  have hn1 := S1.n2
  have IX : Aside _ := hix
  have F0 : Aside _ := hF
  have HT : Aside _ := hT
  have A0 : Aside _ := S0
  have A1 : Aside _ := S1
  have HN : Hid (N ≤ w.heap.size) := hN
  clear hix hF hT S0 S1 hN
  have e0 : ¬ (512 : Int) < (n0 : Int) := by omega
  have e1 : ¬ (512 : Int) < (n1 : Int) := by omega
  have g0 : decide (512 < n0) = false := by simp; omega
  go_enter Ybaf.func3, Ybaf.ntmps3
  go_upto_region 4 with fail
  have F1 : Aside (Fr (fun _ => False) w (((w.alloc (Obj.cells #[Value.string { data := #[102] }, Value.nilIface, Value.bool false] 27)).alloc (Obj.cells #[Value.string { data := #[97] }, Value.string { data := #[98] }] 9)).alloc (Obj.cells #[Value.slice (some ⟨w.heap.size, 0, none⟩) 1 1, Value.slice none 0 0, Value.slice none 0 0, Value.slice none 0 0, Value.int IntKind.i64 0, Value.slice (some ⟨w.heap.size + 1, 0, none⟩) 2 2, Value.map none, Value.slice none 0 0, Value.int IntKind.i64 0, Value.bool false, Value.bool false, Value.bool false, Value.bool false, Value.bool false] 38))) :=
    ((Fr.alloc (X := fun _ => False) _ _).trans (Fr.alloc (X := fun _ => False) _ _) (fun _ h => h) (fun _ _ h => h)).trans (Fr.alloc (X := fun _ => False) _ _) (fun _ h => h) (fun _ _ h => h)
  have G1 : Aside (LogAt (((w.alloc (Obj.cells #[Value.string { data := #[102] }, Value.nilIface, Value.bool false] 27)).alloc (Obj.cells #[Value.string { data := #[97] }, Value.string { data := #[98] }] 9)).alloc (Obj.cells #[Value.slice (some ⟨w.heap.size, 0, none⟩) 1 1, Value.slice none 0 0, Value.slice none 0 0, Value.slice none 0 0, Value.int IntKind.i64 0, Value.slice (some ⟨w.heap.size + 1, 0, none⟩) 2 2, Value.map none, Value.slice none 0 0, Value.int IntKind.i64 0, Value.bool false, Value.bool false, Value.bool false, Value.bool false, Value.bool false] 38)) (w.heap.size + 1 + 1) w.heap.size 1 (w.heap.size + 1) 2) := by
    have s1 : ∀ o, (w.alloc o).heap.size = w.heap.size + 1 := fun o => by simp
    have s2 : ∀ o o', ((w.alloc o).alloc o').heap.size = w.heap.size + 1 + 1 := fun o o' => by simp
    refine ⟨?_, ?_, ?_, ?_, ?_⟩
    · exact cell_at (s2 _ _) rfl
    · exact (Fr.alloc (X := fun _ => False) _ _).cell ((Fr.alloc (X := fun _ => False) _ _).cell (cell_at rfl rfl) (by simp)) (by simp)
    · exact cell_at (s2 _ _) rfl
    · exact (Fr.alloc (X := fun _ => False) _ _).cell (cell_at (s1 _) rfl) (by simp)
    · exact (Fr.alloc (X := fun _ => False) _ _).cell (cell_at (s1 _) rfl) (by simp)
  generalize (((w.alloc (Obj.cells #[Value.string { data := #[102] }, Value.nilIface, Value.bool false] 27)).alloc (Obj.cells #[Value.string { data := #[97] }, Value.string { data := #[98] }] 9)).alloc (Obj.cells #[Value.slice (some ⟨w.heap.size, 0, none⟩) 1 1, Value.slice none 0 0, Value.slice none 0 0, Value.slice none 0 0, Value.int IntKind.i64 0, Value.slice (some ⟨w.heap.size + 1, 0, none⟩) 2 2, Value.map none, Value.slice none 0 0, Value.int IntKind.i64 0, Value.bool false, Value.bool false, Value.bool false, Value.bool false, Value.bool false] 38)) = W1 at F1 G1 ⊢
  have hc0 := timeline4 W1 0 av0 n0 c0 b0 o0 N ps0 sk (A0.out.fr F1.out (by simp)) (by have := F1.out.size; have := HN.out; omega) (Or.inl rfl)
  go_upto_region 5 with (go_at_call 4; refine hc0.mono ?_; rintro e w2 ⟨d0, rfl, h0a, h0n, h0s, h0p, T0, F2⟩)
  have X0 : Aside ((d0.h = 0 ∧ d0.n = n0 ∧ d0.sk = sk ∧ d0.ps = ps0) ∧ TLo d0 w2 W1.heap.size w2.heap.size ∧ Fr (fun _ => False) W1 w2) := ⟨⟨h0a, h0n, h0s, h0p⟩, T0, F2⟩
  clear h0a h0n h0s h0p T0 F2 hc0
  have hc1 := timeline4 w2 1 av1 n1 c1 b1 o1 N ps1 sk ((A1.out.fr F1.out (by simp)).fr X0.out.2.2 (by simp)) (by have := F1.out.size; have := X0.out.2.2.size; have := HN.out; omega) (Or.inr rfl)
  go_upto_region 6 with (go_at_call 4; refine hc1.mono ?_; rintro e w3 ⟨d1, rfl, h1a, h1n, h1s, h1p, T1, F3⟩)
  have X1 : Aside ((d1.h = 1 ∧ d1.n = n1 ∧ d1.sk = sk ∧ d1.ps = ps1) ∧ TLo d1 w3 w2.heap.size w3.heap.size ∧ Fr (fun _ => False) w2 w3) := ⟨⟨h1a, h1n, h1s, h1p⟩, T1, F3⟩
  clear h1a h1n h1s h1p T1 F3 hc1
  have hI := index_at F IX.out HT.out w W1 w2 w3 F0.out _ _ _ _ _ d0 d1 F1.out G1.out X0.out.2.1 X0.out.2.2 X1.out.2.1 X1.out.2.2 X0.out.1.1 X1.out.1.1 (by have := X0.out.1.2.1; have := X1.out.1.2.1; omega)
  go_upto_region 7 with (go_at_call 5; refine hI.mono ?_; rintro e w5 ⟨pv, L5, H, rfl, AF⟩)
  have AF0 : Aside _ := AF
  clear AF hI
  have hm0 := model6_any w5 d0 av0 c0 b0 o0 N (by rw [X0.out.1.2.1, X0.out.1.2.2.2]; exact A0.out.fr AF0.out.fr (by simp)) (by have := AF0.out.fr.size; have := HN.out; omega)
  rw [X0.out.1.2.1, X0.out.1.2.2.1] at hm0
  go_upto_region 8 with (go_at_call 6; refine hm0.mono ?_; rintro e w6 ⟨p0, k0, q0, bb0, rfl, M0⟩)
  have M0' : Aside _ := M0
  clear M0 hm0
  have hm1 := model6_any w6 d1 av1 c1 b1 o1 N (by rw [X1.out.1.2.1, X1.out.1.2.2.2]; exact (A1.out.fr AF0.out.fr (by simp)).fr M0'.out.fr (by simp)) (by have := AF0.out.fr.size; have := M0'.out.fr.size; have := HN.out; omega)
  rw [X1.out.1.2.1, X1.out.1.2.2.1] at hm1
  go_upto_region 9 with (go_at_call 6; refine hm1.mono ?_; rintro e w7 ⟨p1, k1, q1, bb1, rfl, M1⟩)
  have M1' : Aside _ := M1
  clear M1 hm1
  obtain ⟨i5, hi5, hz50, hz51, hz52⟩ := info_parts Ybaf.info53
  obtain ⟨m1, hm1⟩ : ∃ m, m = (prd d1).length := ⟨_, rfl⟩
  have hp1 := M1'.out.p
  rw [← hm1] at hp1
  obtain ⟨av, cp, rfl, hp⟩ := own_sl hp1
  have HP1 : Aside _ := hp
  have HM1 : Hid (m1 = (prd d1).length) := hm1
  clear hp1 hp hm1
  go_cut [19] (fun s19 wc => Aside (wc.ownsRow w5.heap.size 53 2 s19 (prd d0 ++ prd d1).length (pcM (prd d0 ++ prd d1)) ∧ Fr (fun k => p0.ownBlock = some k) w7 wc))
  case first => as_aux_lemma =>
    have P7 : Aside _ := M1'.out.fr.owns M0'.out.p (by simp)
    have hl0 := prd_len d0
    have hl1 := prd_len d1
    have hd0 := X0.out.1.2.1
    have hd1 := X1.out.1.2.1
    have HSZ : Hid (w5.heap.size ≤ w7.heap.size) := Nat.le_trans M0'.out.fr.size M1'.out.fr.size
    rcases HP1.out with ⟨rfl, rfl, rfl⟩ | ⟨gp, rfl, hpc⟩
    · have hz' : Aside (prd d1 = []) := List.eq_nil_of_length_eq_zero HM1.out.symm
      go_wp2_with (at_builtin; refine wpList_append_own_none rfl (.tmp 62) (.tmp 63) 44 rfl w5.heap.size 53 i5 2 Ybaf.underlying44 hi5 _ _ _ rfl P7.out rfl ?_)
      go_meet
      case rel => exact ⟨by rw [hz'.out, List.append_nil]; exact P7.out, Fr.refl _ _⟩
    · have HPC : Aside _ := hpc
      clear hpc
      have hml : m1 ≤ 512 := by have := HM1.out; omega
      go_wp2_with (at_builtin; refine wpList_append_own _ rfl (.tmp 62) (.tmp 63) 44 rfl w5.heap.size 53 i5 _ 2 24 Ybaf.underlying44 hi5 hz50 hz51 hz52 rfl (by decide) _ _ _ rfl P7.out ⟨gp, 0, none⟩ m1 cp (pcM (prd d1)) rfl (by rw [pcM_len, HM1.out]) (fun j u h => by rw [show ((⟨gp, 0, none⟩ : Addr).add j) = ⟨gp, j, none⟩ by (simp [Addr.add]; try exact fun h => h.symm)]; exact HPC.out j u h) (pcM_one _) (by unfold maxLen; omega) (by omega) HSZ.out ?_; intro v8 w8 O8 G8 _)
      go_meet
      case rel => exact ⟨by rw [pcM_append, List.length_append, ← HM1.out]; exact O8, Fr.grown G8 (fun _ h => h)⟩
  case rest =>
    obtain ⟨W8, hW8⟩ : ∃ W, W = wc := ⟨_, rfl⟩
    subst hW8
    have FI : Aside _ := fin_of AF0.out M0'.out M1'.out hcut.out.1 hcut.out.2
    clear hcut M0' M1' AF0 X0 X1 G1 F1 IX F0 HT A0 A1 HN HP1 HM1
    have E0 : Aside _ := FI.out.e0
    have E1 : Aside _ := FI.out.e1
    obtain ⟨m, hm⟩ : ∃ m, m = L5.length := ⟨_, rfl⟩
    have hlen := FI.out.len
    have r1 := FI.out.row
    have r2 := FI.out.want
    rw [← hm] at r1 r2 hlen
    obtain ⟨avp, cp', rfl, hp⟩ := own_sl r1
    obtain ⟨avw, cw, rfl, hw⟩ := own_sl r2
    have HP : Aside _ := hp
    have HW : Aside _ := hw
    have HM : Hid (m = L5.length) := hm
    have FF : Aside _ := FI.out.fr
    clear r1 r2 hp hw hm FI
    have ee : ((m : Int) != (m : Int)) = false := by simp
    go_upto_block 0 with fail
    go_cut [] from 72 to 109 (fun wd => Aside (Fr (fun _ => False) W8 wd))
    case first => as_aux_lemma =>
      go_wp2_with fail
      go_loopg [72] m (fun kx s72 wr => ∃ i : Nat, s72 = .int .i64 i ∧ i ≤ m ∧ m - i ≤ kx ∧ Aside (Fr (fun _ => False) W8 wr))
      case atStart => exact ⟨0, rfl, by omega, by omega, Fr.refl _ _⟩
      case round =>
        obtain ⟨i, rfl, hi, hkx, FR⟩ := hrel
        by_cases hin : i < m
        · have z1 : (i : Int) < (m : Int) := by omega
          have z2 : (0 : Int) ≤ (i : Int) := by omega
          rcases HP.out with ⟨-, h0, -⟩ | ⟨gp, rfl, hpc⟩
          · omega
          rcases HW.out with ⟨-, h0, -⟩ | ⟨gw, rfl, hwc⟩
          · omega
          obtain ⟨⟨⟨bk, ln⟩, nm⟩, hx⟩ : ∃ x, L5[i]? = some x := ⟨_, List.getElem?_eq_getElem (by have := HM.out; omega)⟩
          have hy : (L5.map (·.1))[i]? = some (bk, ln) := by rw [List.getElem?_map, hx]; rfl
          obtain ⟨a1, a2, a3⟩ := pcI_get L5 i _ hx
          obtain ⟨b1, b2⟩ := pcM_get _ i _ hy
          have s1 := FR.out.cell (hpc _ _ a1) (by simp)
          have s2 := FR.out.cell (hpc _ _ a2) (by simp)
          have s3 := FR.out.cell (hpc _ _ a3) (by simp)
          have t1 := FR.out.cell (hwc _ _ b1) (by simp)
          have t2 := FR.out.cell (hwc _ _ b2) (by simp)
          dsimp only at s2 s3 t1 t2
          clear hx hy a1 a2 a3 b1 b2 hpc hwc HP HW
          go_upto_region 15 with fail
          go_cut [108] (fun s108 wc => s108 = .bool false ∧ Aside (Fr (fun _ => False) wr wc))
          case first => as_aux_lemma =>
            cases bk with
            | true =>
              change wr.cell? _ = some (Value.string ⟨#[109, 105, 115, 115, 105, 110, 103, 32, 101, 118, 101, 110, 116]⟩) at s3 t1
              go_quiet (fail)
              go_wp2_with fail
              go_meet
              case rel => exact ⟨rfl, Fr.drewN wr nq⟩
            | false =>
              change wr.cell? _ = some (Value.string ⟨#[100, 117, 112, 108, 105, 99, 97, 116, 101, 32, 101, 118, 101, 110, 116]⟩) at s3 t1
              go_quiet (fail)
              go_wp2_with fail
              go_meet
              case rel => exact ⟨rfl, Fr.drewN wr nq⟩
          case rest =>
            obtain ⟨rfl, FC⟩ := hcut
            obtain ⟨V, hV⟩ : ∃ W, W = wc := ⟨_, rfl⟩
            subst hV
            have FV : Aside (Fr (fun _ => False) W8 V) := FR.out.trans FC.out (fun _ h => h) (fun _ _ h => h)
            clear s1 s2 s3 t1 t2
            go_wp2_with fail
            go_roundg (m - (i + 1))
            case measure => omega
            case rel => exact ⟨i + 1, by go_num, by omega, Nat.le_refl _, FV⟩
        · have z1 : ¬ (i : Int) < (m : Int) := by omega
          go_wp2_with fail
          go_meet
          case rel => exact FR
    case rest => as_aux_lemma =>
      obtain ⟨V, hV⟩ : ∃ W, W = wc := ⟨_, rfl⟩
      subst hV
      obtain ⟨kt0, qt0, c05, c06, e05, e06⟩ := E0.out
      obtain ⟨kt1, qt1, c15, c16, e15, e16⟩ := E1.out
      have FV := hcut.out
      have hA := eq7_fr V kt0 k0 (e05.fr FV)
      have y05 := FV.cell c05 (by simp)
      have Y06 : Aside (V.cell? ⟨d0.t, 6, none⟩ = some qt0 ∧ EqR .u64 V qt0 q0) := ⟨FV.cell c06 (by simp), e06.fr FV⟩
      have Y15 : Aside (V.cell? ⟨d1.t, 5, none⟩ = some kt1 ∧ EqR .i64 V kt1 k1) := ⟨FV.cell c15 (by simp), e15.fr FV⟩
      have Y16 : Aside (V.cell? ⟨d1.t, 6, none⟩ = some qt1 ∧ EqR .u64 V qt1 q1) := ⟨FV.cell c16 (by simp), e16.fr FV⟩
      have FWV : Aside (Fr (fun _ => False) w V) := FF.out.trans FV (fun _ h => h) (fun _ _ h => h)
      clear c05 c06 c15 c16 e05 e06 e15 e16 E0 E1 FV hcut FF HP HW
      go_wp2_with (first | (go_at_call 7; refine hA.mono ?_; rintro e wa ⟨rfl, Fa⟩; have y06 := Fa.cell Y06.out.1 (by simp); have hB := eq8_fr wa qt0 q0 (Y06.out.2.fr Fa); clear y05 hA) | (go_at_call 8; refine hB.mono ?_; rintro e wb ⟨rfl, Fb⟩; have y15 := Fb.cell (Fa.cell Y15.out.1 (by simp)) (by simp); have hC := eq7_fr wb kt1 k1 ((Y15.out.2.fr Fa).fr Fb); clear y06 hB) | (go_at_call 7; refine hC.mono ?_; rintro e wx ⟨rfl, Fx⟩; have y16 := Fx.cell (Fb.cell (Fa.cell Y16.out.1 (by simp)) (by simp)) (by simp); have hD := eq8_fr wx qt1 q1 (((Y16.out.2.fr Fa).fr Fb).fr Fx); clear y15 hC) | (go_at_call 8; refine hD.mono ?_; rintro e wy ⟨rfl, Fy⟩; clear y16 hD))
      go_ret
      exact ⟨rfl, (((FWV.out.trans Fa (fun _ h => h) (fun _ _ h => h)).trans Fb (fun _ h => h) (fun _ _ h => h)).trans Fx (fun _ h => h) (fun _ _ h => h)).trans Fy (fun _ h => h) (fun _ _ h => h)⟩
end Go.Proofs.YbulkbyweFmt
