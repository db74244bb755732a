import Derived.Test.YbulkbyweFmtIdx
import Derived.Test.YbulkbyweFmtReg
namespace Go.Proofs.YbulkbyweFmt
open Go.Shelf Go.RowKit Go.Lib Go.Proofs

/-- The row of the places behind its growth. -/
structure AtMid (w wc : World) (p h : Nat) (base base' : Option Addr) (L' C' : Nat) : Prop where
  st : AtS wc p base' L' C'
  lt : h < L'
  le : L' ≤ 16
  own : ∀ g, AtB base' g → AtB base g ∨ w.heap.size ≤ g
  fr : Fr (fun k => k = p) w wc

theorem AtS.fr {X : Nat → Prop} {w w' : World} {p L C : Nat} {base : Option Addr} (h : AtS w p base L C) (f : Fr X w w') (h1 : ¬ X p) (h2 : ∀ g, AtB base g → ¬ X g) : AtS w' p base L C where
  cell := f.cell h.cell h1
  free := f.frozen h.cell h1 h.free
  le := h.le
  cap := h.cap
  nil := h.nil
  row := fun a ha => by
    obtain ⟨g, cur, rfl, hg, hsz⟩ := h.row a ha
    exact ⟨g, cur, rfl, by rw [f.block g (Array.getElem?_eq_some_iff.1 hg).1 (h2 g ⟨_, ha, rfl⟩)]; exact hg, hsz⟩

theorem AtMid.same {w : World} {p h L C : Nat} {base : Option Addr} (A : AtS w p base L C) (hlt : h < L) (hL : L ≤ 16) (q : Nat) : AtMid w (w.drewN q) p h base base L C where
  st := A.fr (X := fun _ => False) (Fr.drewN w q) (by simp) (by simp)
  lt := hlt
  le := hL
  own := fun _ h => Or.inl h
  fr := Fr.drewN w q

/-- What slices.Grow leaves. -/
structure GrowOk (W : World) (base : Option Addr) (L nd g C' : Nat) (w' : World) : Prop where
  room : L + nd ≤ C'
  cap : C' ≤ 9223372036854775807
  row : ∃ cur : Array Value, w'.heap[g]? = some (.cells cur 21 (0, 0)) ∧ cur.size = C'
  own : AtB base g ∨ W.heap.size ≤ g
  grown : ∃ p : GrownBy, w' = Sort.grow (W.drewN p.n) p.os

theorem AtS.growAny {W : World} {p : Nat} {base : Option Addr} {L C : Nat} (A : AtS W p base L C) (nd : Nat) (hn : nd ≤ 16) (hn0 : 0 < nd) (hL : L ≤ 16) :
    Calls Ybaf.prog 49 #[.slice base L C, .int .i64 nd] W.drew fun e w' => ∃ g C', e = .returned (.slice (some ⟨g, 0, none⟩) L C') ∧ GrowOk W base L nd g C' w' := by
  by_cases hr : L + nd ≤ C
  · refine (grow49_room base L C nd W.drew A.le A.cap (by omega) hr).mono ?_
    rintro e w' ⟨rfl, rfl⟩
    cases hb : base with
    | none => have := A.nil hb; omega
    | some a =>
      obtain ⟨g, cur, rfl, hg, hsz⟩ := A.row a hb
      exact ⟨g, C, rfl, hr, A.cap, ⟨cur, hg, hsz⟩, Or.inl ⟨_, rfl, rfl⟩, grown_drew W⟩
  · obtain ⟨cs, hcs, hcon⟩ := A.grow nd hn hL (by omega) W.drew rfl
    refine hcon.mono ?_
    rintro e w' ⟨rfl, rfl⟩
    refine ⟨_, _, rfl, grownCap_ge _ _ _ _, ?_, ⟨cs, heap_alloc_new _ _, hcs⟩, Or.inr (Nat.le_refl _), ⟨⟨2, #[.cells cs 21]⟩, ?_⟩⟩
    · have := grownCap_le_maxLen W.drew (L + nd) C 21 (by unfold maxLen; omega)
      unfold maxLen at this; omega
    · exact Sort.alloc_eq_grow _ _

theorem Fr.grow (w : World) (n : Nat) (os : Array Obj) : Fr (fun _ => False) w (Sort.grow (w.drewN n) os) where
  os := rfl
  tape := rfl
  output := rfl
  size := by rw [Sort.size_grow]; show w.heap.size ≤ w.heap.size + _; omega
  block := fun k hk _ => by
    show (w.heap ++ os)[k]? = _
    rw [Array.getElem?_append_left hk]

theorem AtMid.made {w W w' : World} {p h L C nd m g C' : Nat} {base : Option Addr} (A : AtS W p base L C) (F1 : Fr (fun k => k = p) w W) (SZ : W.heap.size = w.heap.size) (G : GrowOk W base L nd g C' w') (hm : h + 1 = m) (hmL : m = L + nd) (hm16 : m ≤ 16) (hap : ∀ g, AtB base g → g ≠ p) :
    AtMid w (w'.setCell ⟨p, 0, none⟩ (.slice (some ⟨g, 0, none⟩) m C')) p h base (some ⟨g, 0, none⟩) m C' := by
  have pb : p < W.heap.size := World.block_lt_of_cell? W ⟨p, 0, none⟩ A.cell
  obtain ⟨⟨n, os⟩, hw⟩ := G.grown
  have F2 : Fr (fun _ => False) W w' := by rw [hw]; exact Fr.grow W n os
  have gp : g ≠ p := by
    rcases G.own with h | h
    · exact hap g h
    · omega
  refine ⟨⟨?_, ?_, by have := G.room; omega, G.cap, by simp, fun a ha => ?_⟩, by omega, hm16, fun g' hg => ?_, ?_⟩
  · exact World.cell?_setCell_same _ _ _ (F2.cell A.cell (by simp))
  · rw [World.frozen?_setCell]; exact F2.frozen A.cell (by simp) A.free
  · obtain ⟨cur, hg, hsz⟩ := G.row
    cases ha
    exact ⟨g, cur, rfl, by rw [Below.heap_setCell _ _ _ _ gp]; exact hg, hsz⟩
  · obtain ⟨a, ha, rfl⟩ := hg
    cases ha
    rcases G.own with h | h
    · exact Or.inl h
    · exact Or.inr (by show w.heap.size ≤ g; omega)
  · exact (F1.trans F2 (fun _ h => h) (fun _ _ h => h.elim)).trans (Fr.setCell (X := fun k => k = p) w' ⟨p, 0, none⟩ _ rfl) (fun _ h => h) (fun _ _ h => h)

theorem AtS.at {w : World} {p L C h : Nat} {base : Option Addr} (A : AtS w p base L C) (hl : h < L) : ∃ (g : Nat) (v : Value), base = some ⟨g, 0, none⟩ ∧ w.cell? ⟨g, h, none⟩ = some v ∧ w.frozen? ⟨g, h, none⟩ = false ∧
    ∀ u, AtB base g ∧ (g ≠ p → AtS (w.setCell ⟨g, h, none⟩ u) p base L C) := by
  cases hb : base with
  | none => have := A.nil hb; have := A.le; omega
  | some a =>
    obtain ⟨g, cur, rfl, hg, hsz⟩ := A.row a hb
    have hh : h < cur.size := by have := A.le; omega
    refine ⟨g, cur[h], rfl, ?_, ?_, fun u => ⟨⟨_, rfl, rfl⟩, fun hgp => ?_⟩⟩
    · rw [cell_of_row w g h cur 21 (0, 0) hg]; simp [hh]
    · unfold World.frozen?; simp [hg]
    · subst hb
      refine ⟨(cell_ne (Or.inl hgp)).trans A.cell, by rw [World.frozen?_setCell]; exact A.free, A.le, A.cap, A.nil, fun a ha => ?_⟩
      cases ha
      refine ⟨g, cur.setIfInBounds h u, rfl, ?_, by simpa using hsz⟩
      simp [World.setCell, Array.getElem?_modify, hg]

/-- Of block c, the cells outside the reader are as they were. -/
def Out (c ro : Nat) (w w' : World) : Prop := ∀ o, (o < ro ∨ ro + 14 ≤ o) → w'.cell? ⟨c, o, none⟩ = w.cell? ⟨c, o, none⟩ ∧ w'.frozen? ⟨c, o, none⟩ = w.frozen? ⟨c, o, none⟩

theorem Out.refl (c ro : Nat) (w : World) : Out c ro w w := fun _ _ => ⟨rfl, rfl⟩
theorem Out.trans {c ro : Nat} {a b d : World} (h : Out c ro a b) (k : Out c ro b d) : Out c ro a d := fun o ho => ⟨(k o ho).1.trans (h o ho).1, (k o ho).2.trans (h o ho).2⟩
theorem Out.set {c ro : Nat} {a b : World} (h : Out c ro a b) (o : Nat) (h1 : ro ≤ o) (h2 : o < ro + 14) (v : Value) : Out c ro a (b.setCell ⟨c, o, none⟩ v) :=
  h.trans fun o' ho => ⟨cell_ne (Or.inr (by omega)), by rw [World.frozen?_setCell]⟩
theorem Out.fr {c ro : Nat} {X : Nat → Prop} {a b d : World} (h : Out c ro a b) (f : Fr X b d) (hc : c < b.heap.size) (hX : ¬ X c) : Out c ro a d :=
  h.trans fun o' _ => ⟨World.cell?_of_block (a := ⟨c, o', none⟩) (f.block c hc hX), World.frozen?_of_block (a := ⟨c, o', none⟩) (f.block c hc hX)⟩
theorem Out.drewN {c ro : Nat} {a b : World} (h : Out c ro a b) (q : Nat) : Out c ro a (b.drewN q) := h.trans fun _ _ => ⟨rfl, rfl⟩

/-- What reader.index leaves. -/
structure IdxOk (w w' : World) (c ro p : Nat) (base base' : Option Addr) (L' C' : Nat) (B : Nat → Value) : Prop where
  st : AtS w' p base' L' C'
  le : L' ≤ 16
  own : ∀ g, AtB base' g → AtB base g ∨ w.heap.size ≤ g
  rcd : Rec w' c ro 14 (updB B 7 (.int .i64 0))
  fr : Fr (fun k => k = c ∨ k = p ∨ AtB base k) w w'
  out : Out c ro w w'

set_option maxHeartbeats 1000000 in
set_option maxRecDepth 100000 in
theorem index39 (c ro b i h x bi bd bm n cd k capk p L C : Nat) (base : Option Addr) (B : Nat → Value) (w : World) (R : Rec w c ro 14 B) (K : Blk w b i h x bi bd bm n cd) (A : AtS w p base L C) (hh : h = 0 ∨ h = 1) (hL : L ≤ 16)
    (h0 : B 0 = .pointer (some ⟨b, 0, none⟩)) (h6 : B 6 = .slice (some ⟨k, 0, none⟩) 1 capk) (h13 : B 13 = .pointer (some ⟨p, 0, none⟩)) (hk : w.cell? ⟨k, 0, none⟩ = some (.int .i32 h)) (x1 : Nat) (hk1 : w.cell? ⟨k, 1, none⟩ = some (.int .u64 x1))
    (hcp : c ≠ p) (hck : c ≠ k) (hpk : p ≠ k) (hcb : c ≠ b) (hcbi : c ≠ bi) (hpb : p ≠ b) (hpbi : p ≠ bi)
    (ha : ∀ g, AtB base g → g ≠ c ∧ g ≠ p ∧ g ≠ k ∧ g ≠ b ∧ g ≠ bi) :
    Calls Ybaf.prog 39 #[.pointer (some ⟨c, ro, none⟩)] w fun e w' => e = .returned (.tuple #[]) ∧ ∃ base' L' C', IdxOk w w' c ro p base base' L' C' B := by
  have mixed := Ybaf.laysUv.mixed
  have c0 := R.at 0 (by omega) (a := ro) (by omega) h0
  have c6 := R.at 6 (by omega) (a := ro + 6) rfl h6
  have c13 := R.at 13 (by omega) (a := ro + 13) rfl h13
  have a0 := A.cell
  have af := A.free
  have hl0 : (0 : Int) < 1 := by omega
  have A0 : Aside _ := A
  have HP : Hid (p < w.heap.size) := World.block_lt_of_cell? w ⟨p, 0, none⟩ A.cell
  have HC : Hid (c < w.heap.size) := World.block_lt_of_cell? w ⟨c, ro, none⟩ c0
  have NX : Hid (¬ (k = p ∨ AtB base k) ∧ ¬ (c = p ∨ AtB base c) ∧ ¬ (b = p ∨ AtB base b) ∧ ¬ (bi = p ∨ AtB base bi)) :=
    ⟨fun h => h.elim (fun e => hpk e.symm) (fun e => (ha _ e).2.2.1 rfl), fun h => h.elim hcp (fun e => (ha _ e).1 rfl), fun h => h.elim (fun e => hpb e.symm) (fun e => (ha _ e).2.2.2.1 rfl), fun h => h.elim (fun e => hpbi e.symm) (fun e => (ha _ e).2.2.2.2 rfl)⟩
  have hix : ∀ w, (Instr.indexAt 78 (.slice (some ⟨k, 0, none⟩) 1 capk) (.int .i64 0)).run Ybaf.prog w = .ok (.pointer (some ⟨k, 0, none⟩)) w := fun w => by
    have := Ybaf.underlying78
    simp [Instr.indexAt, asIntOf, run_underlying this, Ybaf.sizeOf107, Addr.add]
  go_enter Ybaf.func39, Ybaf.ntmps39
  go_wp2_with fail
  go_quiet (fail)
  go_upto_region 1 with (fail)
  go_cut [33] (fun s33 wc => ∃ bb : Bool, s33 = .bool bb ∧ Aside (bb = true ↔ L ≤ h) ∧ ∃ q, wc = w.drewN q)
  case first =>
    by_cases hlt : h < L
    · have hltz : decide ((L : Int) ≤ (h : Int)) = false := by simp; omega
      go_wp2_with fail
      go_quiet (fail)
      go_wp2_with fail
      go_meet
      case rel => exact ⟨false, by rw [decide_eq_false (by omega)], (show _ ↔ _ by simp; omega), _, by rw [World.drewN_drewN]⟩
    · have hltz : (L : Int) ≤ (h : Int) := by omega
      go_wp2_with fail
      go_quiet (fail)
      go_wp2_with fail
      go_meet
      case rel => exact ⟨true, rfl, (show _ ↔ _ by simp; omega), _, by rw [World.drewN_drewN]⟩
  case rest =>
    obtain ⟨bb, rfl, BB, q, rfl⟩ := hcut
    go_upto_if 33 with (fail)
    go_cut [] (fun wc => ∃ base' L' C', Aside (AtMid w wc p h base base' L' C'))
    case first =>
      cases bb
      · have BB1 : h < L := by have := BB.out; simp at this; exact this
        go_wp2_with fail
        go_meet
        case rel => exact ⟨base, L, C, AtMid.same A BB1 hL _⟩
      · have BB1 := BB.out.1 rfl
        have A1 : Aside (AtS (w.drewN q) p base L C) := A.fr (X := fun _ => False) (Fr.drewN w q) (by simp) (by simp)
        have F1 : Aside (Fr (fun k => k = p) w (w.drewN q)) := Fr.drewN w q
        have k1 : (w.drewN q).cell? ⟨k, 0, none⟩ = some (.int .i32 h) := hk
        obtain ⟨m, hm⟩ : ∃ m, h + 1 = m := ⟨_, rfl⟩
        obtain ⟨nd, hnd⟩ : ∃ nd, m - L = nd := ⟨_, rfl⟩
        have r0 : IntKind.i64.wrap (h : Int) = (h : Int) := by rw [IntKind.wrap_i64]; omega
        have r1 : IntKind.i64.wrap ((h : Int) + 1) = (m : Int) := by rw [IntKind.wrap_i64]; omega
        have r2 : IntKind.i64.wrap ((m : Int) - (L : Int)) = (nd : Int) := by rw [IntKind.wrap_i64]; omega
        have r3 : IntKind.i32.wrap ((h : Int) + 1) = (m : Int) := by rw [IntKind.wrap_i32]; omega
        have HM : Hid (h + 1 = m ∧ m - L = nd ∧ nd ≤ 16 ∧ 0 < nd ∧ h ≤ 1 ∧ m = L + nd) := ⟨hm, hnd, by omega, by omega, by omega, by omega⟩
        have HA : Hid (∀ g, AtB base g → g ≠ p) := fun g hg => (ha g hg).2.1
        clear R K c0 c6 c13 h0 h6 h13 ha hcp hck hcb hcbi hpb hpbi hl0 BB a0 af A0 A hk hh hm hnd
        have SZ : Hid ((w.drewN q).heap.size = w.heap.size) := rfl
        generalize w.drewN q = W at A1 F1 k1 SZ ⊢
        have kb : k < W.heap.size := World.block_lt_of_cell? W ⟨k, 0, none⟩ k1
        have pb : p < W.heap.size := World.block_lt_of_cell? W ⟨p, 0, none⟩ A1.out.cell
        have kg := cell_grown (w := W) (a := ⟨k, 0, none⟩) kb k1
        have pg := cell_grown (w := W) (a := ⟨p, 0, none⟩) pb A1.out.cell
        clear k1
        have z0 : IntKind.i64.wrap 0 = 0 := by kernel_rfl
        go_wp2_with fail
        refine wp_region_one_lit 32 20 [0, 1, 2, 3, 4, 5, 6, 7, 8, 9, 10, 11, 12, 13, 14, 15, 16, 17, 18, 19, 21, 22, 23, 24, 25, 26, 27, 28] [29, 30, 31] (C := fun w' => ∃ p : GrownBy, w' = Sort.grow (W.drewN p.n) p.os) mixed rfl rfl (by kernel_rfl) (by kernel_rfl) (by kernel_rfl) (by kernel_rfl) (by kernel_rfl) (by kernel_rfl) (by kernel_rfl) (by kernel_rfl) (by kernel_rfl) (by kernel_rfl) rfl (by intro _ _ d _ _ h; simp (config := { zetaDelta := true }) only [Exit.then, bodyPost] at h ⊢; cases d <;> exact h) (grown_drew W) ?_
        simp only [List.take_succ_cons, List.take_zero, List.filterMap_cons, List.filterMap_nil, List.getElem?_cons_succ, List.getElem?_cons_zero]
        repeat (quiet_step (fail))
        refine wpQuiet_nil ?_
        have hcon := A1.out.growAny nd HM.out.2.2.1 HM.out.2.2.2.1 hL
        go_wp2_with (go_at_call 49; refine hcon.mono ?_; rintro e w' ⟨g, C', rfl, G⟩)
        have MID : Aside _ := AtMid.made A1.out F1.out SZ.out G HM.out.1 HM.out.2.2.2.2.2 (by have := HM.out; omega) HA.out
        have F2 : Fr (fun _ => False) W w' := by obtain ⟨⟨n, os⟩, hw⟩ := G.grown; rw [hw]; exact Fr.grow W n os
        have pc := F2.cell A1.out.cell (by simp)
        have pf := F2.frozen A1.out.cell (by simp) A1.out.free
        have mc : (m : Int) ≤ (C' : Int) := by have := G.room; have := HM.out; omega
        have m0 : (0 : Int) ≤ (m : Int) := by omega
        have cc : (C' : Int) ≤ 9223372036854775807 := by have := G.cap; omega
        refine ⟨G.grown, ?_⟩
        clear G F2 hcon kg pg
        repeat (quiet_step (fail))
        refine wpQuiet_nil ?_
        go_wp2_with fail
        go_meet
        case rel => exact ⟨_, _, _, MID⟩
    case rest =>
      obtain ⟨base', L', C', M⟩ := hcut
      go_wp2
      go_loopg [68] 2 (fun kx s68 wr => ∃ (j : Nat), s68 = .int .i64 j ∧ j ≤ 1 ∧ 1 - j ≤ kx ∧ Aside (AtS wr p base' L' C') ∧ Aside (Fr (fun k => k = p ∨ AtB base k) w wr))
      case atStart => exact ⟨0, rfl, by omega, by omega, M.out.st, M.out.fr.mono fun _ _ h => Or.inl h⟩
      case round =>
        obtain ⟨j, rfl, hj, hkx, S1, F1⟩ := hrel
        by_cases hlt : j < 1
        · obtain rfl : j = 0 := by omega
          have kk0 := F1.out.cell hk NX.out.1
          have kk1 := F1.out.cell hk1 NX.out.1
          have pc := S1.out.cell
          obtain ⟨g, u0, rfl, gc, gf, gs⟩ := S1.out.at M.out.lt
          have hlz : (h : Int) < (L' : Int) := by have := M.out.lt; omega
          have gsz : g < wr.heap.size := World.block_lt_of_cell? wr ⟨g, h, none⟩ gc
          have psz : p < wr.heap.size := World.block_lt_of_cell? wr ⟨p, 0, none⟩ pc
          clear R K c0 c6 c13 h0 h6 h13 a0 af A0 A hk hk1 hix
          go_wp2_with fail
          refine wp_region_last 9 mixed rfl (by kernel_rfl) (by kernel_rfl) ?_
          simp only [List.take_succ_cons, List.take_zero]
          repeat (go_big_quiet_step (fail))
          refine wpQuiet_nil ?_
          intro _ hw'
          obtain ⟨nq, hw''⟩ := hw'
          subst hw''
          go_wp2_with fail
          go_roundg 0
          case measure => omega
          case rel =>
            have HG : AtB base g ∨ w.heap.size ≤ g := M.out.own g ⟨_, rfl, rfl⟩
            have pw : p < w.heap.size := HP.out
            have hgp : g ≠ p := by
              rcases HG with h | h
              · exact (ha g h).2.1
              · omega
            have FW : Fr (fun _ => False) wr ((wr.alloc (Obj.cells #[Value.int IntKind.i32 h, Value.int IntKind.u64 x1] 107)).drewN nq) :=
              (Fr.alloc wr _).trans (Fr.drewN (X := fun _ => False) _ nq) (fun _ h => h) (fun _ _ h => h)
            have S2 := S1.out.fr FW (by simp) (by simp)
            obtain ⟨g2, u2, e2, -, -, gs2⟩ := S2.at M.out.lt
            cases e2
            exact ⟨1, by go_num, by omega, by omega, (gs2 _).2 hgp, ((F1.out.trans FW (fun _ h => h) (fun _ _ h => h.elim)).trans (Fr.setCell (X := fun k => k = g) _ ⟨g, h, none⟩ _ rfl) (fun _ h => h) fun i hi hX => by
              subst hX
              rcases HG with h | h
              · exact Or.inr h
              · omega)⟩
        · obtain rfl : j = 1 := by omega
          have kk0 := F1.out.cell hk NX.out.1
          have R1 := R.fr F1.out NX.out.2.1
          have rc0 := R1.at 0 (by omega) (a := ro) (by omega) h0
          have rc7 := R1.cell 7 (by omega)
          have rf7 := R1.nf 7 (by omega) (a := ro + 7) rfl
          have kids := F1.out.cell K.ids NX.out.2.2.1
          have khost := F1.out.cell K.host NX.out.2.2.1
          have kid0 := F1.out.cell K.id0 NX.out.2.2.2
          have hcon := fun q => search50 k capk h (wr.drewN q) hh kk0
          have R10 : Aside _ := R1
          clear R K c0 c6 c13 h0 h6 h13 a0 af A0 A hk hk1 hix R1
          go_wp2_with fail
          refine wp_region_last 21 mixed rfl (by kernel_rfl) (by kernel_rfl) ?_
          simp only [List.take_succ_cons, List.take_zero]
          repeat (go_big_quiet_step (exact Calls.quiet_of_same (hcon _)))
          refine wpQuiet_nil ?_
          intro _ hw'
          obtain ⟨nq, hw''⟩ := hw'
          subst hw''
          go_wp2_with fail
          go_end0
          refine ⟨rfl, base', L', C', ?_, M.out.le, M.out.own, ?_, ?_, (((Out.refl c ro w).fr F1.out HC.out NX.out.2.1).drewN nq).set _ (by omega) (by omega) _⟩
          · refine S1.out.fr ((Fr.drewN (X := fun k => k = c) wr nq).trans (Fr.setCell (X := fun k => k = c) _ ⟨c, ro + 7, none⟩ _ rfl) (fun _ h => h) (fun _ _ h => h)) (fun e => hcp e.symm) fun g hg e => ?_
            subst e
            rcases M.out.own g hg with h | h
            · exact (ha g h).1 rfl
            · have := HC.out; omega
          · exact (R10.out.fr (Fr.drewN (X := fun _ => False) wr nq) (by simp)).set 7 (by omega) _
          · exact ((F1.out.trans (Fr.drewN (X := fun k => k = c) wr nq) (Z := fun k => k = c ∨ k = p ∨ AtB base k) (fun _ h => Or.inr h) (fun _ _ h => Or.inl h))).trans (Fr.setCell (X := fun k => k = c) _ ⟨c, ro + 7, none⟩ _ rfl) (fun _ h => h) (fun _ _ h => Or.inl h)
end Go.Proofs.YbulkbyweFmt
