import Derived.Test.YbulkbyweFmtIdx2
namespace Go.Proofs.YbulkbyweFmt
open Go.Shelf Go.RowKit Go.Lib Go.Proofs

theorem Fr.set' {X : Nat → Prop} {w w' : World} (f : Fr X w w') (p : Addr) (u : Value) (hX : X p.block) : Fr X w (w'.setCell p u) :=
  f.trans (Fr.setCell (X := X) w' p u hX) (fun _ h => h) (fun _ _ h => h)
theorem Fr.drewN' {X : Nat → Prop} {w w' : World} (f : Fr X w w') (q : Nat) : Fr X w (w'.drewN q) :=
  f.trans (Fr.drewN (X := X) w' q) (fun _ h => h) (fun _ _ h => h)
theorem Fr.weak {X Z : Nat → Prop} {a b : World} (h : Fr X a b) (hX : ∀ i, X i → Z i) : Fr Z a b := h.mono fun i _ => hX i
theorem Rec.drewN {w : World} {c o n : Nat} {B : Nat → Value} (h : Rec w c o n B) (q : Nat) : Rec (w.drewN q) c o n B := h.fr (Fr.drewN (X := fun _ => False) w q) (by simp)
theorem Rec.set' {w : World} {c o n : Nat} {B : Nat → Value} (h : Rec w c o n B) (p : Nat) (hp : p < n) (a : Nat) (ha : o + p = a) (v : Value) : Rec (w.setCell ⟨c, a, none⟩ v) c o n (updB B p v) := by
  subst ha; exact h.set p hp v

/-- The reader's clock: nil, or a row of its own. -/
structure CkS (w : World) (kb : Option Addr) (l ck : Nat) : Prop where
  le : l ≤ ck
  cap : ck ≤ 9223372036854775807
  nil : kb = none → ck = 0
  row : ∀ a, kb = some a → ∃ (k : Nat) (cur : Array Value), a = ⟨k, 0, none⟩ ∧ w.heap[k]? = some (.cells cur 107 (0, 0)) ∧ cur.size = ck * 2 ∧ 1 ≤ ck

theorem CkS.fr {X : Nat → Prop} {w w' : World} {kb : Option Addr} {l ck : Nat} (h : CkS w kb l ck) (f : Fr X w w') (h2 : ∀ g, AtB kb g → ¬ X g) : CkS w' kb l ck where
  le := h.le
  cap := h.cap
  nil := h.nil
  row := fun a ha => by
    obtain ⟨g, cur, rfl, hg, hsz⟩ := h.row a ha
    exact ⟨g, cur, rfl, by rw [f.block g (Array.getElem?_eq_some_iff.1 hg).1 (h2 g ⟨_, ha, rfl⟩)]; exact hg, hsz⟩

theorem CkS.run0 {w : World} {kb : Option Addr} {l ck : Nat} (h : CkS w kb l ck) : ∀ W, (Instr.sliceAt 78 (.slice kb l ck) none (some (.int .i64 0)) none).run Ybaf.prog W = .ok (.slice kb 0 ck) W := fun W => by
  have u := Ybaf.underlying78
  cases hk : kb with
  | none =>
    have e := h.nil hk
    subst e
    simp [Instr.sliceAt, run_underlying u, Instr.slice, Instr.sliceBounds, Instr.sliceBound, asIntOf, Ybaf.sizeOf107]
  | some a =>
    obtain ⟨k, cur, rfl, -, -, h1⟩ := h.row a hk
    simp [Instr.sliceAt, run_underlying u, Instr.slice, Instr.sliceBounds, Instr.sliceBound, asIntOf, Ybaf.sizeOf107, Addr.add]

/-- What slices.Grow(rec.clock, 1) leaves. -/
structure CkOk (W : World) (kb : Option Addr) (k ck' : Nat) (w' : World) : Prop where
  room : 1 ≤ ck'
  cap : ck' ≤ 9223372036854775807
  row : ∃ cur : Array Value, w'.heap[k]? = some (.cells cur 107 (0, 0)) ∧ cur.size = ck' * 2
  own : AtB kb k ∨ W.heap.size ≤ k
  fr : Fr (fun _ => False) W w'

theorem CkOk.cells {W w' : World} {kb : Option Addr} {k ck' : Nat} (G : CkOk W kb k ck' w') : ∃ u0 u1, w'.cell? ⟨k, 0, none⟩ = some u0 ∧ w'.cell? ⟨k, 1, none⟩ = some u1 ∧ w'.frozen? ⟨k, 0, none⟩ = false ∧ w'.frozen? ⟨k, 1, none⟩ = false := by
  obtain ⟨cur, hg, hsz⟩ := G.row
  have := G.room
  refine ⟨cur[0], cur[1], ?_, ?_, ?_, ?_⟩
  · rw [cell_of_row w' k 0 cur 107 (0, 0) hg]; simp [show 0 < cur.size by omega]
  · rw [cell_of_row w' k 1 cur 107 (0, 0) hg]; simp [show 1 < cur.size by omega]
  · unfold World.frozen?; simp [hg]
  · unfold World.frozen?; simp [hg]

/-- A clock's row. -/
def Row107 (w : World) (k ck : Nat) : Prop := ∃ cur : Array Value, w.heap[k]? = some (.cells cur 107 (0, 0)) ∧ cur.size = ck * 2

theorem Row107.cells {w : World} {k ck : Nat} (G : Row107 w k ck) (h1 : 1 ≤ ck) : ∃ u0 u1, w.cell? ⟨k, 0, none⟩ = some u0 ∧ w.cell? ⟨k, 1, none⟩ = some u1 ∧ w.frozen? ⟨k, 0, none⟩ = false ∧ w.frozen? ⟨k, 1, none⟩ = false := by
  obtain ⟨cur, hg, hsz⟩ := G
  refine ⟨cur[0], cur[1], ?_, ?_, ?_, ?_⟩
  · rw [cell_of_row w k 0 cur 107 (0, 0) hg]; simp [show 0 < cur.size by omega]
  · rw [cell_of_row w k 1 cur 107 (0, 0) hg]; simp [show 1 < cur.size by omega]
  · unfold World.frozen?; simp [hg]
  · unfold World.frozen?; simp [hg]

theorem Row107.set {w : World} {k ck : Nat} (G : Row107 w k ck) (o : Nat) (u : Value) : Row107 (w.setCell ⟨k, o, none⟩ u) k ck := by
  obtain ⟨cur, hg, hsz⟩ := G
  exact ⟨cur.setIfInBounds o u, by simp [World.setCell, Array.getElem?_modify, hg], by simpa using hsz⟩

theorem Row107.fr {X : Nat → Prop} {w w' : World} {k ck : Nat} (G : Row107 w k ck) (f : Fr X w w') (hX : ¬ X k) : Row107 w' k ck := by
  obtain ⟨cur, hg, hsz⟩ := G
  exact ⟨cur, by rw [f.block k (Array.getElem?_eq_some_iff.1 hg).1 hX]; exact hg, hsz⟩

def posAt (n j : Nat) : Int := if j = 0 then 4 else n

theorem AtS.lt {w : World} {p L C : Nat} {base : Option Addr} (A : AtS w p base L C) {g : Nat} (h : AtB base g) : g < w.heap.size := by
  obtain ⟨a, ha, rfl⟩ := h
  obtain ⟨g, cur, rfl, hg, -⟩ := A.row a ha
  exact (Array.getElem?_eq_some_iff.1 hg).1

theorem Blk.lt {w : World} {b i h x bi bd bm n cd : Nat} (K : Blk w b i h x bi bd bm n cd) : b < w.heap.size ∧ bi < w.heap.size ∧ bd < w.heap.size ∧ bm < w.heap.size :=
  ⟨World.block_lt_of_cell? w ⟨b, 0, none⟩ K.file, World.block_lt_of_cell? w ⟨bi, 0, none⟩ K.id0, World.block_lt_of_cell? w ⟨bd, 0, none⟩ K.byt.head.1, World.block_lt_of_cell? w ⟨bm, 0, none⟩ K.mk0⟩

theorem CkS.growAny {W : World} {kb : Option Addr} {l ck : Nat} (A : CkS W kb l ck) :
    Calls Ybaf.prog 37 #[.slice kb 0 ck, .int .i64 1] W fun e w' => ∃ k ck', e = .returned (.slice (some ⟨k, 0, none⟩) 0 ck') ∧ CkOk W kb k ck' w' := by
  cases hk : kb with
  | none =>
    have := A.nil hk
    subst this
    obtain ⟨cs, hcs, hcon⟩ := grow37_nil W
    refine hcon.mono ?_
    rintro e w' ⟨rfl, rfl⟩
    refine ⟨_, _, rfl, grownCap_ge _ _ _ _, ?_, ⟨cs, heap_alloc_new _ _, hcs⟩, Or.inr (Nat.le_refl _), (Fr.drew W).trans (Fr.alloc (X := fun _ => False) _ _) (fun _ h => h) (fun _ _ h => h)⟩
    have := grownCap_le_maxLen W 1 0 107 (by unfold maxLen; omega)
    unfold maxLen at this; omega
  | some a =>
    obtain ⟨k, cur, rfl, hg, hsz, h1⟩ := A.row a hk
    refine (grow37_room (some ⟨k, 0, none⟩) ck W h1 A.cap).mono ?_
    rintro e w' ⟨rfl, rfl⟩
    exact ⟨k, ck, rfl, h1, A.cap, ⟨cur, hg, hsz⟩, Or.inl ⟨_, rfl, rfl⟩, Fr.refl _ _⟩

/-- What reader.next leaves, where it reads a clock. -/
structure NxW (w w' : World) (c ro b p k ck' h x : Nat) (kb base base' : Option Addr) (L' C' : Nat) (B B' : Nat → Value) : Prop where
  rcd : Rec w' c ro 14 B'
  b0 : B' 0 = .pointer (some ⟨b, 0, none⟩)
  b1 : B' 1 = .int .i64 0
  b6 : B' 6 = .slice (some ⟨k, 0, none⟩) 1 ck'
  oth : ∀ j, j ≠ 1 → j ≠ 2 → j ≠ 6 → j ≠ 7 → B' j = B j
  st : AtS w' p base' L' C'
  le : L' ≤ 16
  own : ∀ g, AtB base' g → AtB base g ∨ w.heap.size ≤ g
  row : Row107 w' k ck'
  ck : 1 ≤ ck' ∧ ck' ≤ 9223372036854775807
  kown : AtB kb k ∨ w.heap.size ≤ k
  k0 : w'.cell? ⟨k, 0, none⟩ = some (.int .i32 h)
  k1 : w'.cell? ⟨k, 1, none⟩ = some (.int .u64 x)
  dis : ¬ AtB base' k
  fr : Fr (fun j => j = c ∨ j = p ∨ AtB base j ∨ AtB kb j) w w'
  out : Out c ro w w'

set_option maxHeartbeats 1000000 in
set_option maxRecDepth 100000 in
theorem next24_where (c ro b i h x bi bd bm n cd p L C : Nat) (base : Option Addr) (B : Nat → Value) (w : World) (R : Rec w c ro 14 B) (K : Blk w b i h x bi bd bm n cd) (A : AtS w p base L C) (hh : h = 0 ∨ h = 1) (hL : L ≤ 16)
    (h0 : B 0 = .pointer (some ⟨b, 0, none⟩)) (h1 : B 1 = .int .i64 (-1)) (h2 : B 2 = .int .i64 0) (kb : Option Addr) (l ck : Nat) (h6 : B 6 = .slice kb l ck) (CK : CkS w kb l ck) (h8 : B 8 = .int .u8 1) (h13 : B 13 = .pointer (some ⟨p, 0, none⟩))
    (hcb : c ≠ b) (hcd : c ≠ bd) (hcbi : c ≠ bi) (hcm : c ≠ bm) (hcp : c ≠ p) (hpb : p ≠ b) (hpbi : p ≠ bi) (ha : ∀ g, AtB base g → g ≠ c ∧ g ≠ p ∧ g ≠ b ∧ g ≠ bi)
    (hkb : ∀ g, AtB kb g → g ≠ c ∧ g ≠ p ∧ g ≠ b ∧ g ≠ bi ∧ g ≠ bd ∧ g ≠ bm ∧ ¬ AtB base g) :
    Calls Ybaf.prog 24 #[.pointer (some ⟨c, ro, none⟩)] w fun e w' => e = .returned (.tuple #[]) ∧ ∃ k ck' base' L' C' B', NxW w w' c ro b p k ck' h x kb base base' L' C' B B' := by
  have mixed := Ybaf.laysUv.mixed
  have NB := K.bounds
  have c0 := R.at 0 (by omega) (a := ro) (by omega) h0
  have c1 := R.at 1 (by omega) (a := ro + 1) rfl h1
  have c2 := R.at 2 (by omega) (a := ro + 2) rfl h2
  have c8 := R.at 8 (by omega) (a := ro + 8) rfl h8
  have f1 := R.nf 1 (by omega) (a := ro + 1) rfl
  have f2 := R.nf 2 (by omega) (a := ro + 2) rfl
  have d8 := K.data
  obtain ⟨y0, y1, y2, y3, y4⟩ := K.byt.head
  have n0 : (0 : Int) ≤ (n : Int) := by omega
  have hn3 : 3 ≤ n := by omega
  have hn32 : n < 4294967296 := by omega
  have ncd : (n : Int) ≤ (cd : Int) := by have := K.cap; omega
  have hb1 : bits BinOp.and IntKind.u8 1 1 = 1 := by kernel_rfl
  have R0 : Aside _ := R
  have K0 : Aside _ := K
  have A0 : Aside _ := A
  clear R K A
  go_enter Ybaf.func24, Ybaf.ntmps24
  go_wp2_with fail
  go_quiet (fail)
  generalize nq = z1
  clear nq
  go_wp2_with fail
  go_quiet (fail)
  generalize nq = z2
  clear nq
  go_upto_region 26 with (go_at_call 32; refine (whereFits32 bd n cd _ hn3 (by go_simp) (by go_simp) (by go_simp)).mono ?_; rintro e w' ⟨rfl, q2, rfl⟩)
  have R1 : Aside (Rec ((((w.drewN z1).setCell ⟨c, ro + 1, none⟩ (.int .i64 0)).drewN (z2 + q2)).setCell ⟨c, ro + 2, none⟩ (.int .i64 3)) c ro 14 (updB (updB B 1 (.int .i64 0)) 2 (.int .i64 3))) :=
    (((R0.out.drewN z1).set' 1 (by omega) _ rfl _).drewN _).set' 2 (by omega) _ rfl _
  have F1 : Aside (Fr (fun k => k = c) w ((((w.drewN z1).setCell ⟨c, ro + 1, none⟩ (.int .i64 0)).drewN (z2 + q2)).setCell ⟨c, ro + 2, none⟩ (.int .i64 3))) :=
    ((((Fr.refl (fun k => k = c) w).drewN' z1).set' ⟨c, ro + 1, none⟩ _ rfl).drewN' _).set' ⟨c, ro + 2, none⟩ _ rfl
  have O1 : Aside (Out c ro w ((((w.drewN z1).setCell ⟨c, ro + 1, none⟩ (.int .i64 0)).drewN (z2 + q2)).setCell ⟨c, ro + 2, none⟩ (.int .i64 3))) :=
    ((((Out.refl c ro w).drewN z1).set _ (by omega) (by omega) _).drewN _).set _ (by omega) (by omega) _
  generalize (((w.drewN z1).setCell ⟨c, ro + 1, none⟩ (.int .i64 0)).drewN (z2 + q2)).setCell ⟨c, ro + 2, none⟩ (.int .i64 3) = w1 at R1 F1 O1 ⊢
  clear c0 c1 c2 c8 f1 f2 d8 y0 y1 y2 y3 y4 hb1 R0 z1 z2 q2
  have K1 := K0.out.fr F1.out (Ne.symm hcb) (Ne.symm hcbi) (Ne.symm hcd) (Ne.symm hcm)
  have c0 := R1.out.at 0 (by omega) (a := ro) (by omega) (v := .pointer (some ⟨b, 0, none⟩)) h0
  have c2 := R1.out.at 2 (by omega) (a := ro + 2) rfl (v := .int .i64 ((3 : Nat) : Int)) rfl
  have c6 := R1.out.at 6 (by omega) (a := ro + 6) rfl (v := .slice kb l ck) h6
  have c8 := R1.out.at 8 (by omega) (a := ro + 8) rfl (v := .int .u8 1) h8
  have f2 := R1.out.nf 2 (by omega) (a := ro + 2) rfl
  have f6 := R1.out.nf 6 (by omega) (a := ro + 6) rfl
  have d8 := K1.data
  obtain ⟨y0, y1, y2, y3, y4⟩ := K1.byt.head
  have sl0 := CK.run0
  have hb2 : bits BinOp.and IntKind.u8 1 2 = 0 := by kernel_rfl
  have hn4 : 3 < n := by omega
  clear K1
  go_upto_region 38 with (go_at_call 34; refine (uvarint34 c ro b bd n cd 3 1 _ (by omega) hn4 hn32 (by go_simp) (by go_simp) (by go_simp) (by go_simp) (by go_simp)).mono ?_; rintro e w' ⟨rfl, q2, rfl⟩)
  have R2 : Aside (Rec (((w1.setCell ⟨c, ro + 3 + 3, none⟩ (.slice kb 0 ck)).drewN q2).setCell ⟨c, ro + 2, none⟩ (.int .i64 4)) c ro 14 (updB (updB (updB (updB B 1 (.int .i64 0)) 2 (.int .i64 3)) 6 (.slice kb 0 ck)) 2 (.int .i64 4))) :=
    ((R1.out.set' 6 (by omega) (ro + 3 + 3) (by omega) _).drewN q2).set' 2 (by omega) _ rfl _
  have F2 : Aside (Fr (fun k => k = c) w (((w1.setCell ⟨c, ro + 3 + 3, none⟩ (.slice kb 0 ck)).drewN q2).setCell ⟨c, ro + 2, none⟩ (.int .i64 4))) :=
    ((F1.out.set' ⟨c, ro + 3 + 3, none⟩ _ rfl).drewN' q2).set' ⟨c, ro + 2, none⟩ _ rfl
  have O2 : Aside (Out c ro w (((w1.setCell ⟨c, ro + 3 + 3, none⟩ (.slice kb 0 ck)).drewN q2).setCell ⟨c, ro + 2, none⟩ (.int .i64 4))) :=
    ((O1.out.set _ (by omega) (by omega) _).drewN _).set _ (by omega) (by omega) _
  generalize ((w1.setCell ⟨c, ro + 3 + 3, none⟩ (.slice kb 0 ck)).drewN q2).setCell ⟨c, ro + 2, none⟩ (.int .i64 4) = w2 at R2 F2 O2 ⊢
  clear c0 c2 c6 c8 f2 f6 d8 y0 y1 y2 y3 y4 hb2 R1 F1 q2 sl0
  have CK2 : Aside (CkS w2 kb l ck) := CK.fr F2.out fun g hg => (hkb g hg).1
  have c6 := R2.out.at 6 (by omega) (a := ro + 3 + 3) (by omega) (v := .slice kb 0 ck) rfl
  have hcon := CK2.out.growAny
  go_wp2_with (go_at_call 37; refine hcon.mono ?_; rintro e w3 ⟨k, ck', rfl, G⟩; have R3 : Aside _ := R2.out.fr G.fr (by simp); have c6' := R3.out.at 6 (by omega) (a := ro + 3 + 3) (by omega) (v := .slice kb 0 ck) rfl; have f6' := R3.out.nf 6 (by omega) (a := ro + 3 + 3) (by omega); have e1 : (1 : Int) ≤ (ck' : Int) := by have := G.room; omega)
  have hc2 : c < w2.heap.size := World.block_lt_of_cell? w2 ⟨c, ro + 3 + 3, none⟩ c6
  have hkc : k ≠ c := by
    rcases G.own with h | h
    · exact (hkb k h).1
    · omega
  have R4 : Aside (Rec (w3.setCell ⟨c, ro + 3 + 3, none⟩ (.slice (some ⟨k, 0, none⟩) 1 ck')) c ro 14 (updB (updB (updB (updB (updB B 1 (.int .i64 0)) 2 (.int .i64 3)) 6 (.slice kb 0 ck)) 2 (.int .i64 4)) 6 (.slice (some ⟨k, 0, none⟩) 1 ck'))) :=
    R3.out.set' 6 (by omega) (ro + 3 + 3) (by omega) _
  have F4 : Aside (Fr (fun k => k = c) w (w3.setCell ⟨c, ro + 3 + 3, none⟩ (.slice (some ⟨k, 0, none⟩) 1 ck'))) :=
    (F2.out.trans (G.fr.weak (Z := fun k => k = c) (fun _ h => h.elim)) (fun _ h => h) (fun _ _ h => h)).set' ⟨c, ro + 3 + 3, none⟩ _ rfl
  have G4 : Aside (Row107 (w3.setCell ⟨c, ro + 3 + 3, none⟩ (.slice (some ⟨k, 0, none⟩) 1 ck')) k ck') := by
    obtain ⟨cur, hg, hsz⟩ := G.row
    exact ⟨cur, by rw [Below.heap_setCell _ _ _ _ hkc]; exact hg, hsz⟩
  have OW : Aside (AtB kb k ∨ w.heap.size ≤ k) := G.own.imp id fun h => Nat.le_trans F2.out.size h
  have G0 : Aside (1 ≤ ck' ∧ ck' ≤ 9223372036854775807) := ⟨G.room, G.cap⟩
  have O4 : Aside (Out c ro w (w3.setCell ⟨c, ro + 3 + 3, none⟩ (.slice (some ⟨k, 0, none⟩) 1 ck'))) :=
    (O2.out.fr G.fr hc2 (by simp)).set _ (by omega) (by omega) _
  have HC4 : Hid (c < w3.heap.size) := Nat.lt_of_lt_of_le hc2 G.fr.size
  have HC5 : Hid (c < (w3.setCell ⟨c, ro + 3 + 3, none⟩ (.slice (some ⟨k, 0, none⟩) 1 ck')).heap.size) := by show c < _; simpa [World.setCell] using HC4.out
  generalize w3.setCell ⟨c, ro + 3 + 3, none⟩ (.slice (some ⟨k, 0, none⟩) 1 ck') = w4 at R4 F4 G4 O4 HC5 ⊢
  clear c6 c6' f6' R3 R2 F2 G hcon CK2 hc2 HC4 O1 O2
  have HK : Hid (k ≠ b ∧ k ≠ bi ∧ k ≠ bd ∧ k ≠ bm ∧ k ≠ p ∧ ¬ AtB base k) := by
    rcases OW.out with h | h
    · have := hkb k h; exact ⟨this.2.2.1, this.2.2.2.1, this.2.2.2.2.1, this.2.2.2.2.2.1, this.2.1, this.2.2.2.2.2.2⟩
    · have := K0.out.lt
      have hp : p < w.heap.size := World.block_lt_of_cell? w ⟨p, 0, none⟩ A0.out.cell
      exact ⟨by omega, by omega, by omega, by omega, by omega, fun e => by have := A0.out.lt e; omega⟩
  have K4 : Aside (Blk w4 b i h x bi bd bm n cd) := K0.out.fr F4.out (Ne.symm hcb) (Ne.symm hcbi) (Ne.symm hcd) (Ne.symm hcm)
  have c2 := R4.out.at 2 (by omega) (a := ro + 2) rfl (v := .int .i64 4) rfl
  have c6 := R4.out.at 6 (by omega) (a := ro + 3 + 3) (by omega) (v := .slice (some ⟨k, 0, none⟩) 1 ck') rfl
  have d8 := K4.out.data
  go_quiet (fail)
  generalize nq = z1
  clear nq
  go_wp2
  go_loopg [9, 322] 2 (fun kx s9 s322 wr => ∃ j : Nat, s322 = .int .i64 j ∧ j ≤ 1 ∧ 1 - j ≤ kx ∧ s9 = .int .i64 (posAt n j) ∧ Aside (Fr (fun i => i = k) w4 wr) ∧ Aside (Row107 wr k ck') ∧ Aside (j = 1 → wr.cell? ⟨k, 0, none⟩ = some (.int .i32 h) ∧ wr.cell? ⟨k, 1, none⟩ = some (.int .u64 x)))
  case atStart => exact ⟨0, rfl, by omega, by omega, rfl, Fr.drewN _ z1, G4.out.fr (Fr.drewN (X := fun _ => False) w4 z1) (by simp), fun h => absurd h (by omega)⟩
  case round =>
    clear c2 c6 d8 z1
    obtain ⟨j, rfl, hj, hkx, rfl, F5, G5, D5⟩ := hrel
    have R5 := R4.out.fr F5.out (Ne.symm hkc)
    have K5 := K4.out.fr F5.out (Ne.symm HK.out.1) (Ne.symm HK.out.2.1) (Ne.symm HK.out.2.2.1) (Ne.symm HK.out.2.2.2.1)
    by_cases hlt : j < 1
    · obtain rfl : j = 0 := by omega
      have pz : posAt n 0 = (4 : Int) := rfl
      rw [pz]
      have c6 := R5.at 6 (by omega) (a := ro + 3 + 3) (by omega) (v := .slice (some ⟨k, 0, none⟩) 1 ck') rfl
      obtain ⟨u0, u1, k0, k1, kf0, kf1⟩ := G5.out.cells G0.out.1
      have ids := K5.ids
      have id0 := K5.id0
      have y4 := K5.byt.head.2.2.2.2
      have hc1 : Calls Ybaf.prog 38 #[.slice (some ⟨bd, 0, none⟩) n cd, .int .i64 4] wr fun e w' => e = .returned (.tuple #[.int .u64 0, .int .i64 5]) ∧ w' = wr := uvAt_small bd n cd 4 0 wr (by omega) (by omega) hn32 y4
      have hc2 := uvAt_tail bd n cd x wr K5.rng K5.len K5.cap K5.byt
      clear R5 K5 y4
      go_wp2_with (first | (go_at_call_of 38 (Value.int IntKind.i64 4); refine hc1.mono ?_; rintro e w' ⟨rfl, rfl⟩) | (go_at_call_of 38 (Value.int IntKind.i64 5); refine hc2.mono ?_; rintro e w' ⟨rfl, q2, rfl⟩))
      refine wp_region_last 15 mixed rfl (by kernel_rfl) (by kernel_rfl) ?_
      simp only [List.take_succ_cons, List.take_zero]
      repeat (go_big_quiet_step (fail))
      refine wpQuiet_nil ?_
      intro _ hw'
      obtain ⟨nq, hw''⟩ := hw'
      subst hw''
      go_wp2_with fail
      go_roundg 0
      case measure => omega
      case rel =>
        refine ⟨1, by go_num, by omega, by omega, rfl, ?_, ?_, ?_⟩
        · exact ((F5.out.drewN' _).set' ⟨k, 0, none⟩ _ rfl).set' ⟨k, 1, none⟩ _ rfl
        · exact ((G5.out.fr (Fr.drewN (X := fun _ => False) _ _) (by simp)).set 0 _).set 1 _
        · intro _
          exact ⟨(cell_ne (Or.inr (by omega))).trans (World.cell?_setCell_same _ _ _ k0), World.cell?_setCell_same _ _ _ ((cell_ne (Or.inr (by omega))).trans k1)⟩
    · obtain rfl : j = 1 := by omega
      have c2 := R5.cell 2 (by omega)
      have f2 := R5.nf 2 (by omega) (a := ro + 2) rfl
      have D := D5.out rfl
      have pz : posAt n 1 = (n : Int) := rfl
      rw [pz]
      have R6 : Rec (wr.setCell ⟨c, ro + 2, none⟩ (.int .i64 n)) c ro 14 _ := R5.set' 2 (by omega) (ro + 2) rfl (.int .i64 n)
      have F6 : Fr (fun k => k = c) wr (wr.setCell ⟨c, ro + 2, none⟩ (.int .i64 n)) := Fr.setCell wr ⟨c, ro + 2, none⟩ _ rfl
      have A5 := (A0.out.fr F4.out (fun e => hcp e.symm) (fun g hg => (ha g hg).1)).fr F5.out (Ne.symm HK.out.2.2.2.2.1) (fun g hg e => HK.out.2.2.2.2.2 (e ▸ hg))
      have hcon := index39 c ro b i h x bi bd bm n cd k ck' p L C base _ _ R6 (K5.fr F6 (Ne.symm hcb) (Ne.symm hcbi) (Ne.symm hcd) (Ne.symm hcm)) (A5.fr F6 (fun e => hcp e.symm) (fun g hg => (ha g hg).1)) hh hL h0 rfl h13
        ((cell_ne (Or.inl (Ne.symm hkc))).trans D.1) x ((cell_ne (Or.inl (Ne.symm hkc))).trans D.2) hcp (Ne.symm hkc) (Ne.symm HK.out.2.2.2.2.1) hcb hcbi hpb hpbi
        (fun g hg => ⟨(ha g hg).1, (ha g hg).2.1, fun e => HK.out.2.2.2.2.2 (e ▸ hg), (ha g hg).2.2.1, (ha g hg).2.2.2⟩)
      clear R5 K5 A5
      go_wp2_with (go_at_call 39; refine hcon.mono ?_; rintro e w' ⟨rfl, base', L', C', I⟩)
      go_end0
      have hsz : w.heap.size ≤ (wr.setCell ⟨c, ro + 2, none⟩ (.int .i64 n)).heap.size := Nat.le_trans (Nat.le_trans F4.out.size F5.out.size) F6.size
      have nX : ¬ (k = c ∨ k = p ∨ AtB base k) := fun e => e.elim hkc (fun e => e.elim HK.out.2.2.2.2.1 HK.out.2.2.2.2.2)
      have kc0 := I.fr.cell ((cell_ne (Or.inl (Ne.symm hkc))).trans D.1) nX
      refine ⟨rfl, k, ck', base', L', C', _, I.rcd, h0, rfl, rfl, fun j j1 j2 j6 j7 => ?_, I.st, I.le, fun g hg => (I.own g hg).imp id (fun e => by omega), (G5.out.fr F6 hkc).fr I.fr nX, G0.out, OW.out, kc0, I.fr.cell ((cell_ne (Or.inl (Ne.symm hkc))).trans D.2) nX, fun e => ?_, ?_, ((O4.out.fr F5.out HC5.out (Ne.symm hkc)).set _ (by omega) (by omega) _).trans I.out⟩
      · simp [updB, j1, j2, j6, j7]
      · rcases I.own k e with h | h
        · exact HK.out.2.2.2.2.2 h
        · have h2 := World.block_lt_of_cell? wr ⟨k, 0, none⟩ D.1
          have h3 := F6.size
          exact absurd h2 (by show ¬ k < wr.heap.size; omega)
      · refine (((F4.out.trans F5.out (Z := fun j => j = c ∨ j = p ∨ AtB base j ∨ AtB kb j) (fun _ h => Or.inl h) fun i hi e => ?_).trans F6 (fun _ h => h) (fun _ _ h => Or.inl h))).trans I.fr (fun _ h => h) fun i _ h => ?_
        · subst e
          rcases OW.out with h | h
          · exact Or.inr (Or.inr (Or.inr h))
          · omega
        · rcases h with h | h | h
          · exact Or.inl h
          · exact Or.inr (Or.inl h)
          · exact Or.inr (Or.inr (Or.inl h))
end Go.Proofs.YbulkbyweFmt
