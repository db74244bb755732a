import Derived.Test.YbulkbyweFmtTL
import Derived.Test.YbulkbyweFmtScan2
import Derived.Deep.CutBlock
namespace Go.Proofs.YbulkbyweFmt
open Go.Shelf Go.RowKit Go.Lib Go.Sort Go.Proofs

/-- Where a slice that came in lies. -/
structure SrcAt (w : World) (av : Option Addr) (n cap b o N : Nat) (ps : Nat → Nat) : Prop where
  at_ : ∀ j, j < n → b < N ∧ w.cell? ⟨b, o + j, none⟩ = some (.int .u64 (ps j)) ∧ ∀ W, (Instr.indexAt 22 (.slice av n cap) (.int .i64 (j : Int))).run Ybaf.prog W = .ok (.pointer (some ⟨b, o + j, none⟩)) W
  rng : ∀ j, j < n → ps j < 18446744073709551616
  n2 : n ≤ 512

theorem SrcAt.fr {X : Nat → Prop} {w w' : World} {av : Option Addr} {n cap b o N : Nat} {ps : Nat → Nat} (S : SrcAt w av n cap b o N ps) (f : Fr X w w') (hX : ∀ k, k < N → ¬ X k) : SrcAt w' av n cap b o N ps :=
  ⟨fun j hj => ⟨(S.at_ j hj).1, f.cell (S.at_ j hj).2.1 (hX _ (S.at_ j hj).1), (S.at_ j hj).2.2⟩, S.rng, S.n2⟩

theorem results_tmp4 {fn : Func} {t u v x : Tmp} (h : fn.results = #[.tmp t, .tmp u, .tmp v, .tmp x]) (tmps : Array Value) (P : Program) (w : World) :
    (results fn tmps).run P w = .ok (.tuple #[tmps.getD t undef, tmps.getD u undef, tmps.getD v undef, tmps.getD x undef]) w := by
  simp [results, h]

set_option maxHeartbeats 1000000 in
set_option maxRecDepth 100000 in
theorem model6_runs (w : World) (av : Option Addr) (n cap b o N : Nat) (ps : Nat → Nat) (sk : Bool) (S : SrcAt w av n cap b o N ps) (hr : runsB ps n = true) :
    Calls Ybaf.prog 6 #[.slice av n cap, .bool sk] w fun e w' => e = .returned (.tuple #[.slice none 0 0, .slice none 0 0, .slice none 0 0, .bool true]) ∧ w' = w := by
  have mixed := Ybaf.laysUv.mixed
  have HR := (runsB_iff _ _).1 hr
  have n2 := S.n2
  have S0 : Aside _ := S
  have HR0 : Aside _ := HR
  clear S HR hr
  go_enter Ybaf.func6, Ybaf.ntmps6
  go_wp2
  go_loopg [8, 27] n (fun kx s8 s27 wr => ∃ i : Nat, s27 = .int .i64 i ∧ s8 = .bool true ∧ i ≤ n ∧ n - i ≤ kx ∧ wr = w)
  case atStart => exact ⟨0, rfl, rfl, by omega, by omega, rfl⟩
  case round =>
    obtain ⟨i, rfl, rfl, hi, hkx, rfl⟩ := hrel
    by_cases hlt : i < n
    · obtain ⟨-, c1, x1⟩ := S0.out.at_ i hlt
      have e1 : (i : Int) < (n : Int) := by omega
      rw [HR0.out i hlt] at c1
      obtain ⟨m, hm⟩ : ∃ m, i + 1 = m := ⟨_, rfl⟩
      rw [hm] at c1
      have r0 : IntKind.u64.wrap (i : Int) = (i : Int) := by rw [IntKind.wrap_u64]; omega
      have r1 : IntKind.u64.wrap ((i : Int) + 1) = (m : Int) := by rw [IntKind.wrap_u64]; omega
      clear hm
      go_wp2
      go_roundg (n - (i + 1))
      case measure => omega
      case rel => exact ⟨i + 1, by go_num, rfl, by omega, Nat.le_refl _, rfl⟩
    · have e1 : ¬ (i : Int) < (n : Int) := by omega
      go_wp2
      refine bodyPost_ret (results_tmp4 rfl _ _ _) rfl ?_
      exact ⟨rfl, rfl⟩

/-- A row of pairs. -/
structure EvR (w : World) (g n : Nat) (d : Array (Nat × Nat)) : Prop where
  sz : d.size = n
  c0 : ∀ i, i < n → w.cell? ⟨g, i * 2, none⟩ = some (.int .u64 (d[i]!).1)
  c1 : ∀ i, i < n → w.cell? ⟨g, i * 2 + 1, none⟩ = some (.int .i64 (d[i]!).2)
  f0 : ∀ o, o < n * 2 → w.frozen? ⟨g, o, none⟩ = false

theorem EvR.fr {X : Nat → Prop} {w w' : World} {g n : Nat} {d : Array (Nat × Nat)} (E : EvR w g n d) (f : Fr X w w') (hX : ¬ X g) : EvR w' g n d where
  sz := E.sz
  c0 := fun i hi => f.cell (E.c0 i hi) hX
  c1 := fun i hi => f.cell (E.c1 i hi) hX
  f0 := fun o ho => by
    have : ∃ v, w.cell? ⟨g, o, none⟩ = some v := by
      rcases Nat.mod_two_eq_zero_or_one o with h | h
      · exact ⟨_, by have := E.c0 (o / 2) (by omega); rwa [show o / 2 * 2 = o by omega] at this⟩
      · exact ⟨_, by have := E.c1 (o / 2) (by omega); rwa [show o / 2 * 2 + 1 = o by omega] at this⟩
    obtain ⟨v, hv⟩ := this
    exact f.frozen hv hX (E.f0 o ho)

theorem EvR.put {w : World} {g n : Nat} {d : Array (Nat × Nat)} (E : EvR w g n d) (i : Nat) (hi : i < n) (x : Nat × Nat) : EvR ((w.setCell ⟨g, i * 2, none⟩ (.int .u64 x.1)).setCell ⟨g, i * 2 + 1, none⟩ (.int .i64 x.2)) g n (d.setIfInBounds i x) where
  sz := by simpa using E.sz
  c0 := fun j hj => by
    have hz := E.sz
    by_cases e : j = i
    · subst e
      rw [getElem!_pos _ j (by simp; omega), Array.getElem_setIfInBounds_self]
      exact (cell_ne (Or.inr (by omega))).trans (World.cell?_setCell_same _ _ _ (E.c0 j hj))
    · rw [getElem!_pos _ j (by simp; omega), Array.getElem_setIfInBounds_ne (by omega) (Ne.symm e), ← getElem!_pos d j (by omega)]
      exact (cell_ne (Or.inr (by omega))).trans ((cell_ne (Or.inr (by omega))).trans (E.c0 j hj))
  c1 := fun j hj => by
    have hz := E.sz
    by_cases e : j = i
    · subst e
      rw [getElem!_pos _ j (by simp; omega), Array.getElem_setIfInBounds_self]
      exact World.cell?_setCell_same _ _ _ ((cell_ne (Or.inr (by omega))).trans (E.c1 j hj))
    · rw [getElem!_pos _ j (by simp; omega), Array.getElem_setIfInBounds_ne (by omega) (Ne.symm e), ← getElem!_pos d j (by omega)]
      exact (cell_ne (Or.inr (by omega))).trans ((cell_ne (Or.inr (by omega))).trans (E.c1 j hj))
  f0 := fun o ho => by rw [World.frozen?_setCell, World.frozen?_setCell]; exact E.f0 o ho

theorem Ybaf.info98 : (Ybaf.prog.info? 98).map (fun i => (i.zero, i.size, i.bytes)) = some (some (.agg #[.int .u64 0, .int .i64 0]), 2, 16) := by kernel_rfl

theorem EvR.new (w : World) (n : Nat) : EvR (w.alloc (.cells (madeCells #[.int .u64 0, .int .i64 0] (n * 2)) 98)) w.heap.size n (Array.replicate n (0, 0)) where
  sz := by simp
  c0 := fun i hi => by
    rw [cell_of_row _ w.heap.size _ _ 98 (0, 0) (heap_alloc_new w _), getElem!_pos _ i (by simpa using hi)]
    have h2 : i * 2 < n * 2 := by omega
    have h3 : i * 2 % 2 = 0 := by omega
    simp [madeCells, h2, h3]
  c1 := fun i hi => by
    rw [cell_of_row _ w.heap.size _ _ 98 (0, 0) (heap_alloc_new w _), getElem!_pos _ i (by simpa using hi)]
    have h2 : i * 2 + 1 < n * 2 := by omega
    have h3 : (i * 2 + 1) % 2 = 1 := by omega
    simp [madeCells, h2, h3]
  f0 := fun o ho => by
    have := heap_alloc_new w (.cells (madeCells #[.int .u64 0, .int .i64 0] (n * 2)) 98)
    unfold World.frozen?
    simp only [this]
    simp

theorem mk97 (n : Nat) (hn : n ≤ 512) : ∀ W : World, (Instr.makeSlice 97 (.int .i64 n) (.int .i64 n)).run Ybaf.prog W = .ok (.slice (some ⟨W.heap.size, 0, none⟩) n n) (W.alloc (.cells (madeCells #[.int .u64 0, .int .i64 0] (n * 2)) 98)) := fun W => by
  obtain ⟨i0, hi, hz0, hz1, hz2⟩ := info_parts Ybaf.info98
  have h := run_make (P := Ybaf.prog) W 97 98 i0 _ Ybaf.underlying97 hi hz0 .i64 .i64 n n (by omega) (by omega) (by rw [hz2]; omega) (by omega)
  rw [hz1, show (Value.agg #[Value.int IntKind.u64 0, Value.int IntKind.i64 0]).cells = #[Value.int IntKind.u64 0, Value.int IntKind.i64 0] from rfl] at h
  simpa using h


/-- A block's element type. -/
def Tag (w : World) (g t : Nat) : Prop := ∃ cur, w.heap[g]? = some (.cells cur t (0, 0))

theorem own_tag {w : World} {H e s n : Nat} {v : Value} {xs : List Value} (h : w.ownsRow H e s v n xs) (g : Nat) (hg : v.ownBlock = some g) : Tag w g e := by
  rcases h.2 with ⟨rfl, -⟩ | ⟨g', c', cur, rfl, h2, h3, -⟩
  · cases hg
  · simp only [Value.ownBlock, Option.some.injEq] at hg
    subst hg
    exact ⟨_, h3⟩

theorem Tag.ne {w : World} {g t t' : Nat} (h : Tag w g t) (h' : Tag w g t') : t = t' := by
  obtain ⟨c, h⟩ := h
  obtain ⟨c', h'⟩ := h'
  rw [h] at h'
  injection h' with h'
  injection h' with _ h2 _

/-- What the model hands back. -/
structure ModR (w w' : World) (s : Sc) (n : Nat) (pv kv qv : Value) : Prop where
  p : w'.ownsRow w.heap.size 53 2 pv s.pr.length (pcM s.pr)
  k : if s.ks = List.range n then kv = .slice none 0 0 else ∃ g c, kv = .slice (some ⟨g, 0, none⟩) s.ks.length c ∧ w.heap.size ≤ g ∧ (∀ j, j < s.ks.length → w'.cell? ⟨g, j, none⟩ = some (.int .i64 (s.ks.getD j 0))) ∧ Tag w' g 3
  q : ∃ g c, qv = .slice (some ⟨g, 0, none⟩) s.qs.length c ∧ w.heap.size ≤ g ∧ (∀ j, j < s.qs.length → w'.cell? ⟨g, j, none⟩ = some (.int .u64 (s.qs.getD j 0))) ∧ Tag w' g 60
  fr : Fr (fun _ => False) w w'

theorem own_base {w : World} {H H' e s n : Nat} {v : Value} {xs : List Value} (h : w.ownsRow H e s v n xs) (hh : H' ≤ H) : w.ownsRow H' e s v n xs := by
  refine ⟨h.1, ?_⟩
  rcases h.2 with h | ⟨g, c, cur, h1, h2, h3⟩
  · exact Or.inl h
  · exact Or.inr ⟨g, c, cur, h1, by omega, h3⟩

theorem getD_map_int (kd : IntKind) (l : List Nat) (j : Nat) (hj : j < l.length) : (l.map fun x : Nat => Value.int kd x)[j]? = some (.int kd ((l.getD j 0 : Nat) : Int)) := by
  rw [List.getElem?_map, List.getD_eq_getElem?_getD, List.getElem?_eq_getElem hj]; rfl

set_option maxHeartbeats 2000000 in
set_option maxRecDepth 100000 in
theorem model6_main (w : World) (av : Option Addr) (n cap b o N : Nat) (ps : Nat → Nat) (sk : Bool) (S : SrcAt w av n cap b o N ps) (hr : runsB ps n = false) (hN : N ≤ w.heap.size) :
    Calls Ybaf.prog 6 #[.slice av n cap, .bool sk] w fun e w' => ∃ pv kv qv, e = .returned (.tuple #[pv, kv, qv, .bool false]) ∧ ModR w w' (scn sk ps n n) n pv kv qv := by
  have mixed := Ybaf.laysUv.mixed
  have n2 := S.n2
  have HR : Aside (∃ i, i < n ∧ ps i ≠ i + 1) := by
    show ∃ i, i < n ∧ ps i ≠ i + 1
    refine Classical.byContradiction fun hc => ?_
    have : runsB ps n = true := (runsB_iff _ _).2 fun i hi => Classical.byContradiction fun h => hc ⟨i, hi, h⟩
    rw [this] at hr; cases hr
  have S0 : Aside _ := S
  have HN : Hid (N ≤ w.heap.size) := hN
  clear S hr hN
  go_enter Ybaf.func6, Ybaf.ntmps6
  go_upto_block 0 with fail
  go_cut [8] from 27 to 37 (fun s8 wc => s8 = .bool false ∧ wc = w)
  case first =>
    go_wp2_with fail
    go_loopg [8, 27] n (fun kx s8 s27 wr => ∃ i : Nat, s27 = .int .i64 i ∧ s8 = .bool true ∧ i ≤ n ∧ n - i ≤ kx ∧ wr = w ∧ Aside (∀ j, j < i → ps j = j + 1))
    case atStart => exact ⟨0, rfl, rfl, by omega, by omega, rfl, fun j hj => absurd hj (by omega)⟩
    case round =>
      obtain ⟨i, rfl, rfl, hi, hkx, rfl, I⟩ := hrel
      by_cases hlt : i < n
      · obtain ⟨-, c1, x1⟩ := S0.out.at_ i hlt
        have e1 : (i : Int) < (n : Int) := by omega
        obtain ⟨m, hm⟩ : ∃ m, i + 1 = m := ⟨_, rfl⟩
        have r0 : IntKind.u64.wrap (i : Int) = (i : Int) := by rw [IntKind.wrap_u64]; omega
        have r1 : IntKind.u64.wrap ((i : Int) + 1) = (m : Int) := by rw [IntKind.wrap_u64]; omega
        by_cases hp : ps i = m
        · rw [hp] at c1
          have I2 : Aside (∀ j, j < i + 1 → ps j = j + 1) := fun j hj => by
            by_cases e : j = i
            · subst e; omega
            · exact I.out j (by omega)
          clear hm I hp
          go_wp2
          go_roundg (n - (i + 1))
          case measure => omega
          case rel => exact ⟨i + 1, by go_num, rfl, by omega, Nat.le_refl _, rfl, I2⟩
        · have hpz : ((ps i : Int) != (m : Int)) = true := by simp; omega
          clear hm I hp
          go_wp2_with fail
          go_meet
          case rel => exact ⟨rfl, rfl⟩
      · exfalso
        obtain ⟨j, hj, hne⟩ := HR.out
        exact hne (I.out j (by omega))
  case rest =>
    obtain ⟨rfl, rfl⟩ := hcut
    obtain ⟨w0, hw0⟩ : ∃ w0, w0 = wc := ⟨_, rfl⟩
    subst hw0
    have hmk := mk97 n n2
    have E0 : Aside _ := EvR.new w0 n
    have F0 : Aside _ := Fr.alloc (X := fun k => k = w0.heap.size) w0 (.cells (madeCells #[.int .u64 0, .int .i64 0] (n * 2)) 98)
    obtain ⟨g, hg⟩ : ∃ g, w0.heap.size = g := ⟨_, rfl⟩
    rw [hg] at E0 F0
    have HG : Hid (w0.heap.size = g) := hg
    go_upto_block 2 with fail
    generalize w0.alloc (.cells (madeCells #[.int .u64 0, .int .i64 0] (n * 2)) 98) = W1 at E0 F0 ⊢
    clear hmk hg
    go_cut [] from 44 to 55 (fun wd => Aside (EvR wd g n (evs ps n)) ∧ Aside (Fr (fun k => k = g) w0 wd))
    case first =>
      go_wp2_with fail
      go_loopg [44] n (fun kx s44 wr => ∃ (i : Nat) (dk : Array (Nat × Nat)), s44 = .int .i64 i ∧ i ≤ n ∧ n - i ≤ kx ∧ Aside (EvR wr g n dk) ∧ Aside (∀ j, j < i → dk[j]! = (ps j, j)) ∧ Aside (Fr (fun k => k = g) w0 wr))
      case atStart => exact ⟨0, _, rfl, by omega, by omega, E0, fun j hj => absurd hj (by omega), F0⟩
      case round =>
        clear E0 F0
        obtain ⟨i, dk, rfl, hi, hkx, E1, I, F1⟩ := hrel
        by_cases hlt : i < n
        · obtain ⟨b1, c1, x1⟩ := (S0.out.fr F1.out (fun k hk e => by have := HG.out; have := HN.out; omega)).at_ i hlt
          have e1 : (i : Int) < (n : Int) := by omega
          have e2 : (0 : Int) ≤ (i : Int) := by omega
          have k0 := E1.out.c0 i hlt
          have k1 := E1.out.c1 i hlt
          have g0 := E1.out.f0 (i * 2) (by omega)
          have g1 := E1.out.f0 (i * 2 + 1) (by omega)
          have E2 : Aside (EvR ((wr.setCell ⟨g, i * 2, none⟩ (.int .u64 (ps i))).setCell ⟨g, i * 2 + 1, none⟩ (.int .i64 i)) g n (dk.setIfInBounds i (ps i, i))) := E1.out.put i hlt (ps i, i)
          have F2 : Aside (Fr (fun k => k = g) w0 ((wr.setCell ⟨g, i * 2, none⟩ (.int .u64 (ps i))).setCell ⟨g, i * 2 + 1, none⟩ (.int .i64 i))) := (F1.out.set' ⟨g, i * 2, none⟩ _ rfl).set' ⟨g, i * 2 + 1, none⟩ _ rfl
          have I2 : Aside (∀ j, j < i + 1 → (dk.setIfInBounds i (ps i, i))[j]! = (ps j, j)) := fun j hj => by
            have hz := E1.out.sz
            by_cases e : j = i
            · subst e; rw [getElem!_pos _ j (by simp; omega), Array.getElem_setIfInBounds_self]
            · rw [getElem!_pos _ j (by simp; omega), Array.getElem_setIfInBounds_ne (by omega) (Ne.symm e), ← getElem!_pos dk j (by omega)]; exact I.out j (by omega)
          clear E1 F1 I
          go_wp2
          go_roundg (n - (i + 1))
          case measure => omega
          case rel => exact ⟨i + 1, _, by go_num, by omega, Nat.le_refl _, E2, I2, F2⟩
        · have e1 : ¬ (i : Int) < (n : Int) := by omega
          obtain rfl : i = n := by omega
          have ee : dk = evs ps i := by
            apply Array.ext
            · rw [E1.out.sz, evs_size]
            · intro j h1 h2
              have hz := E1.out.sz
              have h3 := I.out j (by omega)
              rw [getElem!_pos _ j (by omega)] at h3
              have h4 := evs_get ps i j (by omega)
              rw [getElem!_pos _ j (by rw [evs_size]; omega)] at h4
              rw [h3, h4]
          subst ee
          go_wp2_with fail
          go_meet
          case rel => exact ⟨E1, F1⟩
    case rest =>
      obtain ⟨E1, F1⟩ := hcut
      clear E0 F0
      have hn1 : 1 ≤ n := by obtain ⟨i, hi, -⟩ := HR.out; omega
      obtain ⟨w1, hw1⟩ : ∃ w1, w1 = wc := ⟨_, rfl⟩
      subst hw1
      go_upto_block 4 with fail
      go_cut [] from 56 to 97 (fun wd => Aside (EvR wd g n (insertionSort (ltOf cmpP) (evs ps n) 0 n)) ∧ Aside (Fr (fun k => k = g) w0 wd))
      case first =>
        go_wp2_with fail
        go_loopg [14] n (fun kx s14 wr => ∃ (i : Nat) (dk : Array (Nat × Nat)), s14 = .int .i64 i ∧ 1 ≤ i ∧ i ≤ n ∧ n - i ≤ kx ∧ Aside (EvR wr g n dk) ∧ Aside (insOuter (ltOf cmpP) 0 n i dk = insertionSort (ltOf cmpP) (evs ps n) 0 n) ∧ Aside (Fr (fun k => k = g) w0 wr))
        case atStart => exact ⟨1, _, rfl, by omega, by omega, by omega, E1, rfl, F1⟩
        case round =>
          clear E1 F1
          obtain ⟨i, dk, rfl, hi1, hi, hkx, E1, I, F1⟩ := hrel
          by_cases hlt : i < n
          · have e1 : (i : Int) < (n : Int) := by omega
            go_wp2
            go_loopg [15] i (fun kx s15 wr => ∃ (j : Nat) (dj : Array (Nat × Nat)), s15 = .int .i64 j ∧ j ≤ i ∧ j ≤ kx ∧ Aside (EvR wr g n dj) ∧ Aside (insInner (ltOf cmpP) 0 j dj = insInner (ltOf cmpP) 0 i dk) ∧ Aside (Fr (fun k => k = g) w0 wr))
            case atStart => exact ⟨i, dk, rfl, Nat.le_refl _, Nat.le_refl _, E1, rfl, F1⟩
            case round =>
              clear E1 F1
              obtain ⟨j, dj, rfl, hj, hkj, E2, I2, F2⟩ := hrel
              by_cases hj0 : j = 0
              · subst hj0
                have ee : Aside (dj = insInner (ltOf cmpP) 0 i dk) := by
                  have := I2.out
                  rw [insInner] at this
                  exact this
                have II : Aside (insOuter (ltOf cmpP) 0 n (i + 1) dj = insertionSort (ltOf cmpP) (evs ps n) 0 n) := by
                  have := I.out
                  rw [insOuter, if_pos hlt, ← ee.out] at this
                  exact this
                clear I I2 ee
                go_wp2_with fail
                go_quiet (fail)
                go_wp2
                go_roundg (n - (i + 1))
                case measure => omega
                case rel => exact ⟨i + 1, dj, by go_num, by omega, by omega, Nat.le_refl _, E2.out.fr (Fr.drewN (X := fun _ => False) _ _) (by simp), II, F2.out.drewN' _⟩
              · obtain ⟨t, ht⟩ : ∃ t, t + 1 = j := ⟨j - 1, by omega⟩
                have e3 : (0 : Int) < (j : Int) := by omega
                have e3n : 0 < j := by omega
                have e3d : decide (0 < j) = true := by simp; omega
                have e3z : decide ((0 : Int) < (j : Int)) = true := by simp; omega
                have e4 : (j : Int) < (n : Int) := by omega
                have e5 : (t : Int) < (n : Int) := by omega
                have e6 : (0 : Int) ≤ (t : Int) := by omega
                have e7 : (0 : Int) ≤ (j : Int) := by omega
                have rt : IntKind.i64.wrap ((j : Int) - 1) = (t : Int) := by rw [IntKind.wrap_i64]; omega
                have a0 := E2.out.c0 j (by omega)
                have a1 := E2.out.c1 j (by omega)
                have b0 := E2.out.c0 t (by omega)
                have b1 := E2.out.c1 t (by omega)
                have fa0 := E2.out.f0 (j * 2) (by omega)
                have fa1 := E2.out.f0 (j * 2 + 1) (by omega)
                have fb0 := E2.out.f0 (t * 2) (by omega)
                have fb1 := E2.out.f0 (t * 2 + 1) (by omega)
                have gsz : g < wr.heap.size := World.block_lt_of_cell? wr ⟨g, j * 2, none⟩ a0
                have d1 : (j * 2 = t * 2) = False := by simp; omega
                have d2 : (j * 2 = t * 2 + 1) = False := by simp; omega
                have d3 : (j * 2 + 1 = t * 2) = False := by simp; omega
                have d4 : (j * 2 + 1 = t * 2 + 1) = False := by simp; omega
                have HS : Aside (insInner (ltOf cmpP) 0 j dj = if (ltOf cmpP) dj[j]! dj[t]! = true then insInner (ltOf cmpP) 0 t (swp dj j t) else dj) := by
                  subst ht
                  show insInner (ltOf cmpP) 0 (t + 1) dj = _
                  rw [insInner]
                  simp
                have HT : Hid (t + 1 = j) := ht
                clear ht hj0
                obtain ⟨⟨x1, x2⟩, hx⟩ : ∃ x, dj[j]! = x := ⟨_, rfl⟩
                obtain ⟨⟨y1, y2⟩, hy⟩ : ∃ y, dj[t]! = y := ⟨_, rfl⟩
                rw [hx] at a0 a1
                rw [hy] at b0 b1
                have HXY : Aside (dj[j]! = (x1, x2) ∧ dj[t]! = (y1, y2)) := ⟨hx, hy⟩
                clear hx hy
                by_cases hgt : x1 < y1
                · have hgz : (x1 : Int) < (y1 : Int) := by omega
                  have I3 : Aside (insInner (ltOf cmpP) 0 t (swp dj j t) = insInner (ltOf cmpP) 0 i dk) := by
                    have h := HS.out
                    rw [HXY.out.1, HXY.out.2, if_pos (by simp [ltOf, cmpP, hgt])] at h
                    exact h.symm.trans I2.out
                  clear I2 HS
                  go_wp2_with fail
                  go_quiet (fail)
                  generalize nq = z1
                  clear nq
                  have E3 : Aside _ := E2.out.fr (Fr.drewN (X := fun _ => False) wr z1) (by simp)
                  have F3 : Aside _ := F2.out.drewN' z1
                  generalize wr.drewN z1 = wq at E3 F3 ⊢
                  clear a0 a1 b0 b1 fa0 fa1 fb0 fb1 gsz E2 F2
                  have a0 := E3.out.c0 j (by omega)
                  have a1 := E3.out.c1 j (by omega)
                  have b0 := E3.out.c0 t (by omega)
                  have b1 := E3.out.c1 t (by omega)
                  rw [HXY.out.1] at a0 a1
                  rw [HXY.out.2] at b0 b1
                  have fa0 := E3.out.f0 (j * 2) (by omega)
                  have fa1 := E3.out.f0 (j * 2 + 1) (by omega)
                  have fb0 := E3.out.f0 (t * 2) (by omega)
                  have fb1 := E3.out.f0 (t * 2 + 1) (by omega)
                  have gsz : g < wq.heap.size := World.block_lt_of_cell? wq ⟨g, j * 2, none⟩ a0
                  have gne : (g = wq.heap.size) = False := by simp; omega
                  have E4 : Aside (EvR (((((wq.setCell ⟨g, j * 2, none⟩ (.int .u64 y1)).setCell ⟨g, j * 2 + 1, none⟩ (.int .i64 y2)).setCell ⟨g, t * 2, none⟩ (.int .u64 x1)).setCell ⟨g, t * 2 + 1, none⟩ (.int .i64 x2)).alloc (.cells #[.int .u64 x1, .int .i64 x2] 98)) g n (swp dj j t)) := by
                    have h := ((E3.out.put j (by omega) (y1, y2)).put t (by omega) (x1, x2)).fr (Fr.alloc (X := fun _ => False) _ (.cells #[.int .u64 x1, .int .i64 x2] 98)) (by simp)
                    have e : swp dj j t = (dj.setIfInBounds j (y1, y2)).setIfInBounds t (x1, x2) := by
                      rw [swp, HXY.out.1, HXY.out.2]
                    rw [e]; exact h
                  have F4 : Aside (Fr (fun k => k = g) w0 (((((wq.setCell ⟨g, j * 2, none⟩ (.int .u64 y1)).setCell ⟨g, j * 2 + 1, none⟩ (.int .i64 y2)).setCell ⟨g, t * 2, none⟩ (.int .u64 x1)).setCell ⟨g, t * 2 + 1, none⟩ (.int .i64 x2)).alloc (.cells #[.int .u64 x1, .int .i64 x2] 98))) :=
                    ((((F3.out.set' ⟨g, j * 2, none⟩ _ rfl).set' ⟨g, j * 2 + 1, none⟩ _ rfl).set' ⟨g, t * 2, none⟩ _ rfl).set' ⟨g, t * 2 + 1, none⟩ _ rfl).trans (Fr.alloc (X := fun _ => False) _ _) (fun _ h => h) (fun _ _ h => h.elim)
                  clear E3 F3
                  go_wp2_with fail
                  go_roundg t
                  case measure => have := HT.out; omega
                  case rel => exact ⟨t, swp dj j t, rfl, by have := HT.out; omega, Nat.le_refl _, E4, I3, F4⟩
                · have hgz : ¬ (x1 : Int) < (y1 : Int) := by omega
                  have hgd : decide ((x1 : Int) < (y1 : Int)) = false := by simp; omega
                  have ee : Aside (dj = insInner (ltOf cmpP) 0 i dk) := by
                    have h := HS.out
                    have hc : ltOf cmpP (x1, x2) (y1, y2) = false := by
                      unfold ltOf cmpP
                      simp only [hgt, if_false]
                      split <;> simp
                    rw [HXY.out.1, HXY.out.2, hc] at h
                    simp only [Bool.false_eq_true, if_false] at h
                    exact h.symm.trans I2.out
                  have II : Aside (insOuter (ltOf cmpP) 0 n (i + 1) dj = insertionSort (ltOf cmpP) (evs ps n) 0 n) := by
                    have := I.out
                    rw [insOuter, if_pos hlt, ← ee.out] at this
                    exact this
                  clear I I2 ee HS
                  go_wp2_with fail
                  go_quiet (fail)
                  go_wp2
                  go_roundg (n - (i + 1))
                  case measure => omega
                  case rel => exact ⟨i + 1, dj, by go_num, by omega, by omega, Nat.le_refl _, E2.out.fr (Fr.drewN (X := fun _ => False) _ _) (by simp), II, F2.out.drewN' _⟩
          · have e1 : ¬ (i : Int) < (n : Int) := by omega
            have ee : Aside (dk = insertionSort (ltOf cmpP) (evs ps n) 0 n) := by
              have := I.out
              rw [insOuter, if_neg hlt] at this
              exact this
            clear I
            go_wp2_with fail
            go_meet
            case rel => exact ⟨by rw [← ee.out]; exact E1, F1⟩
      case rest =>
        obtain ⟨E2, F2⟩ := hcut
        clear E1 F1
        have hT : Aside (∀ i x1 x2, (h : i < n) → (srt ps n)[i]'(by rw [srt_len]; exact h) = (x1, x2) → (insertionSort (ltOf cmpP) (evs ps n) 0 n)[i]! = (x1, x2)) := by
          have hb := ins_block (evs ps n) 0 n (by omega) (by rw [evs_size]; exact Nat.le_refl _) (fun p t _ h2 h3 => by rw [evs_idx ps n p (by rw [evs_size]; omega), evs_idx ps n t (by rw [evs_size]; omega)]; exact h2)
          have hs := srt_of ps n _ hb.1 hb.2
          intro i x1 x2 h hx
          have hz := E2.out.sz
          rw [getElem!_pos _ i (by omega), ← hx, ← Array.getElem_toList]
          congr 1
        generalize insertionSort (ltOf cmpP) (evs ps n) 0 n = dS at E2 hT
        obtain ⟨w2, hw2⟩ : ∃ w2, w2 = wc := ⟨_, rfl⟩
        subst hw2
        obtain ⟨i3, hi3, hz30, hz31, hz32⟩ := info_parts Ybaf.info3
        obtain ⟨i6, hi6, hz60, hz61, hz62⟩ := info_parts Ybaf.info60
        obtain ⟨i5, hi5, hz50, hz51, hz52⟩ := info_parts Ybaf.info53
        have hgw : Hid (g < w2.heap.size) := World.block_lt_of_cell? w2 ⟨g, 0 * 2, none⟩ (E2.out.c0 0 (by omega))
        go_upto_block 8 with (first | (at_make; refine wpList_make_own _ rfl _ (.tmp 99) 45 rfl (g + 1) 3 i3 _ 1 Ybaf.underlying45 hi3 hz30 hz31 .i64 .i64 n n rfl rfl rfl (by rw [hz32]; omega) (by unfold maxLen; omega) (by have := hgw.out; omega) ?_; intro w3 O3 G3) | (at_make; refine wpList_make_own _ rfl _ (.tmp 102) 22 rfl (g + 1) 60 i6 _ 1 Ybaf.underlying22 hi6 hz60 hz61 .i64 .i64 n n rfl rfl rfl (by rw [hz62]; omega) (by unfold maxLen; omega) (by have := hgw.out; have := G3.size; omega) ?_; intro w4 O4 G4))
        have R0 : Aside (R3 (g + 1) 53 2 w4 (.slice none 0 0) (.slice (some ⟨w2.heap.size, 0, none⟩) 0 n) (.slice (some ⟨w3.heap.size, 0, none⟩) 0 n) 0 [] [] []) :=
          ⟨World.ownsRow_nil _ _ _ _, O3.kept G4 (Or.inr (by simp [Value.ownBlock])), O4, by simp, by simp, by decide, by decide⟩
        have F4 : Aside (Fr (fun k => g ≤ k) w0 w4) := (((F2.out.mono (fun i _ h => by omega) : Fr (fun k => g ≤ k) w0 w2).trans (Fr.grown (X := fun _ => False) G3 (by simp)) (fun _ h => h) (fun _ _ h => h.elim)).trans (Fr.grown (X := fun _ => False) G4 (by simp)) (fun _ h => h) (fun _ _ h => h.elim))
        have E4 : Aside (EvR w4 g n dS) := (E2.out.fr (Fr.grown (X := fun _ => False) G3 (by simp)) (by simp)).fr (Fr.grown (X := fun _ => False) G4 (by simp)) (by simp)
        generalize w2.heap.size = gk at R0 ⊢
        generalize w3.heap.size = gq at R0 ⊢
        clear O3 O4 G3 G4 E2 F2 hgw
        go_cut [17, 18, 19] from 106 to 156 (fun s17 s18 s19 wd => Aside (R3 (g + 1) 53 2 wd s17 s18 s19 (scn sk ps n n).pr.length (pcM (scn sk ps n n).pr) (scn sk ps n n).ks (scn sk ps n n).qs) ∧ Aside (Fr (fun k => g ≤ k) w0 wd))
        case first =>
          go_wp2_with fail
          go_loopg [17, 18, 19, 106] n (fun kx s17 s18 s19 s106 wr => ∃ i : Nat, s106 = .int .i64 i ∧ i ≤ n ∧ n - i ≤ kx ∧ Aside (R3 (g + 1) 53 2 wr s17 s18 s19 (scn sk ps n i).pr.length (pcM (scn sk ps n i).pr) (scn sk ps n i).ks (scn sk ps n i).qs) ∧ Aside (EvR wr g n dS) ∧ Aside (Fr (fun k => g ≤ k) w0 wr))
          case atStart => exact ⟨0, rfl, by omega, by omega, R0, E4, F4⟩
          case round =>
            clear R0 E4 F4
            obtain ⟨i, rfl, hi, hkx, R1, E1, F1⟩ := hrel
            by_cases hlt : i < n
            · have e1 : (i : Int) < (n : Int) := by omega
              have e2 : (0 : Int) ≤ (i : Int) := by omega
              obtain ⟨x1, x2, hx, hx2, hx3, hx4, hx5⟩ := scn_step sk ps n i hlt
              have hd := hT.out i x1 x2 hlt hx
              have a0 := E1.out.c0 i hlt
              have a1 := E1.out.c1 i hlt
              rw [hd] at a0 a1
              have hx6 : x1 < 18446744073709551616 := by rw [hx3]; exact S0.out.rng x2 hx2
              obtain ⟨hl1, hl2, hl3⟩ := scn_len sk ps n i
              have HX : Aside ((scn sk ps n i).last ≤ x1 ∧ scn sk ps n (i + 1) = Sc.step sk (scn sk ps n i) (x1, x2)) := ⟨hx4, hx5⟩
              clear hx hx3 hx4 hx5 hd
              obtain ⟨⟨pr, ks, qs⟩, hsc⟩ : ∃ sc, scn sk ps n i = sc := ⟨_, rfl⟩
              rw [hsc] at R1 HX hl1 hl2 hl3
              clear hsc
              obtain ⟨gk', ck, rfl, hgk, -⟩ := own_at R1.out.k R1.out.k0
              obtain ⟨gq', cq, rfl, hgq, -⟩ := own_at R1.out.q R1.out.q0
              dsimp only at R1 HX hl1 hl2 hl3 ⊢
              obtain ⟨lq, hlq⟩ : ∃ lq, (⟨pr, ks, qs⟩ : Sc).last = lq := ⟨_, rfl⟩
              have HL := last_eq ⟨pr, ks, qs⟩
              rw [hlq] at HL HX
              dsimp only at HL
              have HL0 : Aside _ := HL
              have HLQ : Aside _ := hlq
              clear HL hlq
              go_upto_if 112 with (fail)
              have c0 : (wr.alloc (.cells #[.int .u64 x1, .int .i64 x2] 98)).cell? ⟨wr.heap.size, 0, none⟩ = some (.int .u64 x1) := by simp
              have c1 : (wr.alloc (.cells #[.int .u64 x1, .int .i64 x2] 98)).cell? ⟨wr.heap.size, 1, none⟩ = some (.int .i64 x2) := by simp
              have R2 : Aside _ := R1.out.fr (Fr.alloc (X := fun _ => False) wr (.cells #[.int .u64 x1, .int .i64 x2] 98)) (by simp)
              have E2 : Aside _ := E1.out.fr (Fr.alloc (X := fun _ => False) wr (.cells #[.int .u64 x1, .int .i64 x2] 98)) (by simp)
              have F2 : Aside (Fr (fun k => g ≤ k) w0 (wr.alloc (.cells #[.int .u64 x1, .int .i64 x2] 98))) := F1.out.trans (Fr.alloc (X := fun _ => False) wr _) (fun _ h => h) (fun _ _ h => h.elim)
              have BB : Aside ((∀ k, u17.ownBlock = some k → k ≠ wr.heap.size) ∧ gk' ≠ wr.heap.size ∧ gq' ≠ wr.heap.size) :=
                ⟨fun k hk => by have := (R1.out.p.lt k hk).2; omega, by have := (R1.out.k.lt gk' rfl).2; omega, by have := (R1.out.q.lt gq' rfl).2; omega⟩
              have HB : Hid (g < wr.heap.size) := World.block_lt_of_cell? wr ⟨g, i * 2, none⟩ a0
              clear R1 E1 F1 a0 a1
              generalize wr.alloc (.cells #[.int .u64 x1, .int .i64 x2] 98) = W1 at c0 c1 R2 E2 F2 ⊢
              generalize wr.heap.size = b1 at c0 c1 BB HB ⊢
              clear wr
              go_cut [22] (fun s22 wc => s22 = .int .u64 lq ∧ wc = W1)
              case first =>
                by_cases hq : qs = []
                · subst hq
                  have hz := HL0.out.1 rfl
                  subst hz
                  go_wp2_with fail
                  go_meet
                  case rel => exact ⟨rfl, rfl⟩
                · have hl0 : 0 < qs.length := List.length_pos_iff.2 hq
                  obtain ⟨t, ht⟩ : ∃ t, t + 1 = qs.length := ⟨qs.length - 1, by omega⟩
                  have hlc : W1.cell? ⟨gq', t, none⟩ = some (.int .u64 lq) := by
                    have h1 := HL0.out.2 hq
                    rw [← ht] at h1
                    have h2 : (qs.map fun x : Nat => Value.int .u64 x)[t]? = some (.int .u64 lq) := by
                      rw [List.getElem?_map]; simp at h1; simp [h1]
                    obtain ⟨_, _, e, -, hc⟩ := own_at R2.out.q R2.out.q0
                    injection e with e1 _ _
                    injection e1 with e1
                    injection e1 with e1 _ _
                    subst e1
                    exact hc t _ h2
                  generalize qs.length = m at *
                  subst ht
                  have e4 : (t : Int) < ((t : Int) + 1) := by omega
                  have e5 : (0 : Int) < ((t : Int) + 1) := by omega
                  go_wp2_with fail
                  go_meet
                  case rel => exact ⟨rfl, rfl⟩
              case rest =>
                obtain ⟨rfl, rfl⟩ := hcut
                obtain ⟨W, hW⟩ : ∃ W, W = wc := ⟨_, rfl⟩
                subst hW
                clear HL0
                have HBW : Hid (g + 1 ≤ W.heap.size ∧ b1 < W.heap.size) := by
                  have h1 : b1 < W.heap.size := World.block_lt_of_cell? W ⟨b1, 0, none⟩ c0
                  have h2 := HB.out
                  exact ⟨by omega, h1⟩
                obtain ⟨hle, hst⟩ := HX.out
                have HST : Aside _ := hst
                clear HX hst
                obtain ⟨y2, hy2⟩ : ∃ y2, x2 + 1 = y2 := ⟨_, rfl⟩
                have ry : IntKind.i64.wrap ((x2 : Int) + 1) = (y2 : Int) := by rw [IntKind.wrap_i64]; omega
                by_cases hdup : x1 = lq
                · have hst2 : Aside (scn sk ps n (i + 1) = ⟨pr ++ [(false, y2)], ks, qs⟩) := by
                    have h := HST.out
                    rw [step_dup _ _ _ (by rw [HLQ.out]; exact hdup)] at h
                    rw [← hy2]; exact h
                  subst hdup
                  clear HST hy2
                  have PW : Aside _ := R2.out.fr (Fr.alloc (X := fun _ => False) W (.cells #[kindS false, .int .i64 y2] 53)) (by simp)
                  go_wp2_with (at_builtin; refine wpList_append_own _ rfl (.tmp 123) (.tmp 128) 44 rfl (g + 1) 53 i5 _ 2 24 Ybaf.underlying44 hi5 hz50 hz51 hz52 rfl (by decide) _ _ _ rfl PW.out.p ⟨W.heap.size, 0, none⟩ 1 1 [kindS false, .int .i64 y2] rfl rfl (news2 W _ _ 53) (by intro u hu; simp at hu; rcases hu with rfl | rfl <;> rfl) (by unfold maxLen; omega) (by omega) (by have := HBW.out; simp; omega) ?_; intro v5 w5 O5 G5 _; have R5 : Aside _ := PW.out.addP O5 G5; clear O5)
                  go_roundg (n - (i + 1))
                  case measure => omega
                  case rel =>
                    refine ⟨i + 1, by go_num, by omega, Nat.le_refl _, ?_, ?_, ?_⟩
                    · rw [hst2.out]
                      dsimp only
                      rw [pcM_snoc, List.length_append]
                      exact R5
                    · exact (E2.out.fr (Fr.alloc (X := fun _ => False) W _) (by simp)).fr (Fr.grown (X := fun k => g + 1 ≤ k) G5 (fun k hk => (PW.out.p.lt k hk).1)) (by omega)
                    · exact (F2.out.trans (Fr.alloc (X := fun _ => False) W _) (fun _ h => h) (fun _ _ h => h.elim)).row (H := g + 1) G5 (fun k hk => (PW.out.p.lt k hk).1) (fun k hk => by omega)
                · obtain ⟨d, hd⟩ : ∃ d, lq + d = x1 := ⟨x1 - lq, by omega⟩
                  have rd : IntKind.u64.wrap ((x1 : Int) - (lq : Int)) = (d : Int) := by rw [IntKind.wrap_u64]; omega
                  have hnz : ¬ ((x1 : Int) = (lq : Int)) := by omega
                  have hst2 : Aside (scn sk ps n (i + 1) = ⟨if 1 < d ∧ sk = false then pr ++ [(true, y2)] else pr, ks ++ [x2], qs ++ [x1]⟩) := by
                    have h := HST.out
                    by_cases hm : 1 < d ∧ sk = false
                    · rw [step_miss _ _ _ (by rw [HLQ.out]; exact hdup) (by rw [HLQ.out]; show lq + 1 < x1; omega) hm.2] at h
                      rw [if_pos hm, ← hy2]; exact h
                    · rw [step_plain _ _ _ (by rw [HLQ.out]; exact hdup) (by rw [HLQ.out]; show ¬ (lq + 1 < x1 ∧ sk = false); intro hc; exact hm ⟨by omega, hc.2⟩)] at h
                      rw [if_neg hm]; exact h
                  clear HST HLQ hy2 hdup hd hle
                  go_upto_region 36 with (fail)
                  go_cut [138] (fun s138 wc => s138 = .bool (decide (1 < d) && !sk) ∧ wc = W)
                  case first =>
                    by_cases h1d : 1 < d
                    · have hz1 : (1 : Int) < (d : Int) := by omega
                      have hz2 : decide (1 < d) = true := by simpa using h1d
                      go_wp2_with fail
                      go_meet
                      case rel => exact ⟨by simp [hz2], rfl⟩
                    · have hz1 : ¬ (1 : Int) < (d : Int) := by omega
                      have hz2 : decide (1 < d) = false := by simpa using h1d
                      go_wp2_with fail
                      go_meet
                      case rel => exact ⟨by simp [hz2], rfl⟩
                  case rest =>
                    obtain ⟨rfl, rfl⟩ := hcut
                    obtain ⟨W, hW⟩ : ∃ W, W = wc := ⟨_, rfl⟩
                    subst hW
                    go_upto_if 138 with (fail)
                    go_cut [17] (fun s17 wc => Aside (R3 (g + 1) 53 2 wc s17 (.slice (some ⟨gk', 0, none⟩) ks.length ck) (.slice (some ⟨gq', 0, none⟩) qs.length cq) (if 1 < d ∧ sk = false then pr ++ [(true, y2)] else pr).length (pcM (if 1 < d ∧ sk = false then pr ++ [(true, y2)] else pr)) ks qs) ∧ Aside (EvR wc g n dS) ∧ Aside (Fr (fun k => g ≤ k) w0 wc) ∧ Aside (wc.cell? ⟨b1, 0, none⟩ = some (.int .u64 x1) ∧ wc.cell? ⟨b1, 1, none⟩ = some (.int .i64 x2)))
                    case first =>
                      by_cases hm : 1 < d ∧ sk = false
                      · have HM : Aside _ := hm
                        have hz2 : (decide (1 < d) && !sk) = true := by
                          obtain ⟨hm1, hm2⟩ := hm
                          simp [hm1, hm2]
                        clear hm
                        simp only [hz2]
                        have PW : Aside _ := R2.out.fr (Fr.alloc (X := fun _ => False) W (.cells #[kindS true, .int .i64 y2] 53)) (by simp)
                        go_wp2_with (at_builtin; refine wpList_append_own _ rfl (.tmp 139) (.tmp 144) 44 rfl (g + 1) 53 i5 _ 2 24 Ybaf.underlying44 hi5 hz50 hz51 hz52 rfl (by decide) _ _ _ rfl PW.out.p ⟨W.heap.size, 0, none⟩ 1 1 [kindS true, .int .i64 y2] rfl rfl (news2 W _ _ 53) (by intro u hu; simp at hu; rcases hu with rfl | rfl <;> rfl) (by unfold maxLen; omega) (by omega) (by have := HBW.out; simp; omega) ?_; intro v5 w5 O5 G5 _; have R5 : Aside _ := PW.out.addP O5 G5; clear O5)
                        go_meet
                        case rel =>
                          refine ⟨?_, ?_, ?_, ?_⟩
                          · rw [if_pos HM.out, pcM_snoc, List.length_append]
                            exact R5
                          · exact (E2.out.fr (Fr.alloc (X := fun _ => False) W _) (by simp)).fr (Fr.grown (X := fun k => g + 1 ≤ k) G5 (fun k hk => (PW.out.p.lt k hk).1)) (by omega)
                          · exact (F2.out.trans (Fr.alloc (X := fun _ => False) W _) (fun _ h => h) (fun _ _ h => h.elim)).row (H := g + 1) G5 (fun k hk => (PW.out.p.lt k hk).1) (fun k hk => by omega)
                          · have fr2 := Fr.grown (X := fun k => k ≠ b1) G5 (fun k hk => BB.out.1 k hk)
                            have fr1 := Fr.alloc (X := fun _ => False) W (.cells #[kindS true, .int .i64 y2] 53)
                            exact ⟨fr2.cell (fr1.cell c0 (by simp)) (by simp), fr2.cell (fr1.cell c1 (by simp)) (by simp)⟩
                      · have HM : Aside _ := hm
                        have hz2 : (decide (1 < d) && !sk) = false := by
                          cases sk
                          · simp only [Bool.not_false, Bool.and_true, decide_eq_false_iff_not]; exact fun h => hm ⟨h, rfl⟩
                          · simp
                        simp only [hz2]
                        go_wp2_with fail
                        go_meet
                        case rel => exact ⟨by rw [if_neg HM.out]; exact R2, E2, F2, c0, c1⟩
                    case rest =>
                      obtain ⟨R5, E5, F5, C5⟩ := hcut
                      obtain ⟨V, hV⟩ : ∃ V, V = wc := ⟨_, rfl⟩
                      subst hV
                      clear R2 E2 F2 c0 c1 HBW W
                      have hs3 : Aside _ := hst2
                      generalize (if 1 < d ∧ sk = false then pr ++ [(true, y2)] else pr) = pr2 at R5 hs3
                      clear hst2 rd hnz ry
                      obtain ⟨c0, c1⟩ := C5.out
                      have HBV : Hid (g + 1 ≤ V.heap.size ∧ b1 < V.heap.size) := by
                        have h1 : b1 < V.heap.size := World.block_lt_of_cell? V ⟨b1, 0, none⟩ c0
                        have h2 := HB.out
                        exact ⟨by omega, h1⟩
                      have PW : Aside _ := R5.out.fr (Fr.alloc (X := fun _ => False) V (.cells #[.int .i64 x2] 3)) (by simp)
                      go_upto_region 39 with (at_builtin; refine wpList_append_own _ rfl (.tmp 146) (.tmp 149) 45 rfl (g + 1) 3 i3 _ 1 8 Ybaf.underlying45 hi3 hz30 hz31 hz32 rfl (by decide) _ _ _ rfl PW.out.k ⟨V.heap.size, 0, none⟩ 1 1 [.int .i64 x2] rfl rfl (news1 V _ 3) (by intro u hu; simp at hu; subst hu; rfl) (by unfold maxLen; omega) (by omega) (by have := HBV.out; simp; omega) ?_; intro v6 w6 O6 G6 N6; have R6 : Aside _ := PW.out.addK x2 O6 G6 N6; clear O6 N6)
                      have E6 : Aside (EvR w6 g n dS) := (E5.out.fr (Fr.alloc (X := fun _ => False) V _) (by simp)).fr (Fr.grown (X := fun k => g + 1 ≤ k) G6 (fun k hk => (PW.out.k.lt k hk).1)) (by omega)
                      have F6 : Aside (Fr (fun k => g ≤ k) w0 w6) := (F5.out.trans (Fr.alloc (X := fun _ => False) V _) (fun _ h => h) (fun _ _ h => h.elim)).row (H := g + 1) G6 (fun k hk => (PW.out.k.lt k hk).1) (fun k hk => by omega)
                      have C6 : w6.cell? ⟨b1, 0, none⟩ = some (.int .u64 x1) ∧ w6.cell? ⟨b1, 1, none⟩ = some (.int .i64 x2) := by
                        have fr2 := Fr.grown (X := fun k => k ≠ b1) G6 (fun k hk => by have hk' : some gk' = some k := hk; injection hk' with hk'; subst hk'; exact BB.out.2.1)
                        have fr1 := Fr.alloc (X := fun _ => False) V (.cells #[.int .i64 x2] 3)
                        exact ⟨fr2.cell (fr1.cell c0 (by simp)) (by simp), fr2.cell (fr1.cell c1 (by simp)) (by simp)⟩
                      clear c0 c1 C5 E5 F5 R5 PW G6 HBV
                      obtain ⟨c0, c1⟩ := C6
                      have HBV : Hid (g + 1 ≤ w6.heap.size ∧ b1 < w6.heap.size) := by
                        have h1 : b1 < w6.heap.size := World.block_lt_of_cell? w6 ⟨b1, 0, none⟩ c0
                        have h2 := HB.out
                        exact ⟨by omega, h1⟩
                      have PW : Aside _ := R6.out.fr (Fr.alloc (X := fun _ => False) w6 (.cells #[.int .u64 x1] 60)) (by simp)
                      go_wp2_with (at_builtin; refine wpList_append_own _ rfl (.tmp 151) (.tmp 154) 22 rfl (g + 1) 60 i6 _ 1 8 Ybaf.underlying22 hi6 hz60 hz61 hz62 rfl (by decide) _ _ _ rfl PW.out.q ⟨w6.heap.size, 0, none⟩ 1 1 [.int .u64 x1] rfl rfl (news1 w6 _ 60) (by intro u hu; simp at hu; subst hu; rfl) (by unfold maxLen; omega) (by omega) (by have := HBV.out; simp; omega) ?_; intro v7 w7 O7 G7 N7; have R7 : Aside _ := PW.out.addQ x1 O7 G7 N7; clear O7 N7)
                      go_roundg (n - (i + 1))
                      case measure => omega
                      case rel =>
                        refine ⟨i + 1, by go_num, by omega, Nat.le_refl _, ?_, ?_, ?_⟩
                        · rw [hs3.out]
                          exact R7
                        · exact (E6.out.fr (Fr.alloc (X := fun _ => False) w6 _) (by simp)).fr (Fr.grown (X := fun k => g + 1 ≤ k) G7 (fun k hk => (PW.out.q.lt k hk).1)) (by omega)
                        · exact (F6.out.trans (Fr.alloc (X := fun _ => False) w6 _) (fun _ h => h) (fun _ _ h => h.elim)).row (H := g + 1) G7 (fun k hk => (PW.out.q.lt k hk).1) (fun k hk => by omega)
            · have e1 : ¬ (i : Int) < (n : Int) := by omega
              obtain rfl : i = n := by omega
              go_wp2_with fail
              go_meet
              case rel => exact ⟨R1, F1⟩
        case rest =>
          obtain ⟨R1, F1⟩ := hcut
          clear R0 E4 F4
          obtain ⟨w5, hw5⟩ : ∃ w5, w5 = wc := ⟨_, rfl⟩
          subst hw5
          obtain ⟨hl1, hl2, hl3⟩ := scn_len sk ps n n
          have HP : Aside (w5.ownsRow w0.heap.size 53 2 u17 (scn sk ps n n).pr.length (pcM (scn sk ps n n).pr)) := own_base R1.out.p (by have := HG.out; omega)
          have HF : Aside (Fr (fun _ => False) w0 w5) := F1.out.mono (fun k hk h => by have := HG.out; omega)
          obtain ⟨gk', ck, rfl, hgk, hkc⟩ := own_at R1.out.k R1.out.k0
          obtain ⟨gq', cq, rfl, hgq, hqc⟩ := own_at R1.out.q R1.out.q0
          have HQ : Aside (w0.heap.size ≤ gq' ∧ (∀ j, j < (scn sk ps n n).qs.length → w5.cell? ⟨gq', j, none⟩ = some (.int .u64 ((scn sk ps n n).qs.getD j 0))) ∧ Tag w5 gq' 60) := ⟨by have := HG.out; omega, fun j hj => hqc j _ (getD_map_int _ _ _ hj), own_tag R1.out.q gq' rfl⟩
          have HK : Aside (w0.heap.size ≤ gk' ∧ (∀ j, j < (scn sk ps n n).ks.length → w5.cell? ⟨gk', j, none⟩ = some (.int .i64 ((scn sk ps n n).ks.getD j 0))) ∧ Tag w5 gk' 3) := ⟨by have := HG.out; omega, fun j hj => hkc j _ (getD_map_int _ _ _ hj), own_tag R1.out.k gk' rfl⟩
          have hkn : Aside (∀ j, j < (scn sk ps n n).ks.length → (scn sk ps n n).ks.getD j 0 < 1000) := fun j hj => by
            have h := (run_qs sk ((srt ps n).take n)).2.1
            have hm : (scn sk ps n n).ks.getD j 0 ∈ (scn sk ps n n).ks := by
              rw [List.getD_eq_getElem?_getD, List.getElem?_eq_getElem hj]; exact List.getElem_mem hj
            have h2 := h.subset hm
            rw [List.take_of_length_le (by rw [srt_len]; exact Nat.le_refl _)] at h2
            have h3 := (srt_idx ps n).mem_iff.1 h2
            have := List.mem_range.1 h3
            omega
          clear R1 F1 hkc hqc hgk hgq
          obtain ⟨⟨pr, ks, qs⟩, hsc⟩ : ∃ sc, scn sk ps n n = sc := ⟨_, rfl⟩
          rw [hsc] at HP HQ HK hkn hl1 hl2 hl3
          rw [hsc]
          have HSC : Aside _ := hsc
          clear hsc
          dsimp only at HP HQ HK hkn hl1 hl2 hl3 ⊢
          go_upto_block 10 with (fail)
          go_cut [23] from 164 to 173 (fun s23 wc => s23 = .bool (fulB ks n ks.length) ∧ wc = w5)
          case first =>
            go_wp2_with fail
            go_loopg [23, 164] ks.length (fun kx s23 s164 wr => ∃ i : Nat, s164 = .int .i64 i ∧ i ≤ ks.length ∧ ks.length - i ≤ kx ∧ s23 = .bool (fulB ks n i) ∧ wr = w5)
            case atStart =>
              refine ⟨0, rfl, by omega, by omega, ?_, rfl⟩
              congr 1
              rw [Bool.eq_iff_iff]
              simp [fulB]
              omega
            case round =>
              obtain ⟨i, rfl, hi, hkx, rfl, rfl⟩ := hrel
              by_cases hlt : i < ks.length
              · have e1 : (i : Int) < (ks.length : Int) := by omega
                have kc := HK.out.2.1 i (by omega)
                have kb := hkn.out i (by omega)
                have fs : Aside _ := fulB_succ ks n i
                generalize ks.getD i 0 = y at kc kb fs
                by_cases hy : y = i
                · subst hy
                  go_wp2_with fail
                  go_roundg (ks.length - (y + 1))
                  case measure => omega
                  case rel => exact ⟨y + 1, by go_num, by omega, Nat.le_refl _, by rw [fs.out]; simp, rfl⟩
                · have hyz : ¬ ((y : Int) = (i : Int)) := by omega
                  go_wp2_with fail
                  go_roundg (ks.length - (i + 1))
                  case measure => omega
                  case rel => exact ⟨i + 1, by go_num, by omega, Nat.le_refl _, by rw [fs.out]; simp [hy], rfl⟩
              · have e1 : ¬ (i : Int) < (ks.length : Int) := by omega
                have him : Aside (i = ks.length) := by show i = ks.length; omega
                go_wp2_with fail
                go_meet
                case rel => exact ⟨by rw [him.out], rfl⟩
          case rest =>
            obtain ⟨rfl, rfl⟩ := hcut
            by_cases hf : fulB ks n ks.length = true
            · rw [hf]
              go_wp2_with fail
              refine bodyPost_ret (results_tmp4 rfl _ _ _) rfl ?_
              rw [HSC.out]
              refine ⟨_, _, _, rfl, HP.out, ?_, ⟨gq', cq, rfl, HQ.out⟩, HF.out⟩
              rw [if_pos]
              · rfl
              · exact (fulB_all ks n).1 hf
            · rw [Bool.not_eq_true] at hf
              rw [hf]
              go_wp2_with fail
              refine bodyPost_ret (results_tmp4 rfl _ _ _) rfl ?_
              rw [HSC.out]
              refine ⟨_, _, _, rfl, HP.out, ?_, ⟨gq', cq, rfl, HQ.out⟩, HF.out⟩
              rw [if_neg]
              · exact ⟨gk', ck, rfl, HK.out⟩
              · intro hc
                rw [(fulB_all ks n).2 hc] at hf
                cases hf
end Go.Proofs.YbulkbyweFmt
