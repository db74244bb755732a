import Derived.Test.YbulkbyweFmtTL
import Derived.Shelf.SlicesG.SearchI
import Derived.Ground.SlgnProg
import Derived.Shelf.SlSorted.IsSorted
import Derived.Ground.SlsoProg
namespace Go.Proofs.YbulkbyweFmt
open Go.Shelf Go.RowKit Go.Lib Go.Proofs

shelf_lay_g SlLaysN.n49 Slgn 49 at Ybaf 31 as Ybaf.laysBs
shelf_lay_g SlLaysO.n10 Slso 10 at Ybaf 20 as Ybaf.laysIs

/-- 0, 1, .., n - 1. -/
def zsOf (n : Nat) : List Int := (List.range n).map (fun i : Nat => (i : Int))

theorem zsOf_get (n j : Nat) (h : j < n) : (zsOf n).getD j 0 = (j : Int) := by
  simp [zsOf, List.getD_eq_getElem?_getD, h]

theorem zsOf_len (n : Nat) : (zsOf n).length = n := by simp [zsOf]

theorem zsOf_sorted (n : Nat) : (zsOf n).Pairwise (· ≤ ·) := by
  unfold zsOf
  rw [List.pairwise_map]
  exact (List.pairwise_lt_range (n := n)).imp (fun h => by omega)

theorem zsOf_count (n i : Nat) (h : i < n) : (zsOf n).countP (· < (i : Int)) = i := by
  unfold zsOf
  rw [List.countP_map]
  have e : ((fun x : Int => decide (x < (i : Int))) ∘ fun i : Nat => (i : Int)) = fun j : Nat => decide (j < i) := by
    funext j; simp
  rw [e]
  obtain ⟨k, rfl⟩ : ∃ k, n = i + k := ⟨n - i, by omega⟩
  rw [List.range_add, List.countP_append]
  have h1 : (List.range i).countP (fun j => decide (j < i)) = i := by
    rw [List.countP_eq_length.2 (fun a ha => by simpa using List.mem_range.1 ha), List.length_range]
  have h2 : ((List.range k).map (i + ·)).countP (fun j => decide (j < i)) = 0 := by
    rw [List.countP_eq_zero]; intro a ha; simp at ha; obtain ⟨b, -, rfl⟩ := ha; simp
  rw [h1, h2, Nat.add_zero]

theorem bs31 (d : TD) (w : World) (N i q : Nat) (T : TL d w N) (hi : i < d.n) :
    Calls Ybaf.prog 31 #[.slice (some ⟨d.sb, 0, none⟩) d.n d.sc, .int .i64 i] (w.drewN q) fun e w' => e = .returned (.tuple #[.int .i64 i, .bool true]) ∧ ∃ m, w' = (w.drewN q).drewN m := by
  have n2 := T.n2
  have h := AnyG.slices_BinarySearch_int Ybaf.laysBs d.sb 0 d.n d.sc (zsOf d.n) i (w.drewN q) (by rw [zsOf_len]; exact Nat.le_refl _) (by omega)
    (fun j hj => by rw [zsOf_len] at hj; rw [zsOf_get _ _ hj, Nat.zero_add]; exact T.ss j hj)
    (by rw [List.take_of_length_le (by rw [zsOf_len]; exact Nat.le_refl _)]; exact zsOf_sorted _)
  rw [List.take_of_length_le (by rw [zsOf_len]; exact Nat.le_refl _), zsOf_count _ _ hi] at h
  have hc : (zsOf d.n).contains (i : Int) = true := by simp [zsOf]; exact ⟨i, hi, rfl⟩
  rw [hc] at h
  exact h

set_option maxHeartbeats 1000000 in
set_option maxRecDepth 100000 in
theorem at23 (d : TD) (w : World) (N i : Nat) (T : TL d w N) (hk : w.cell? ⟨d.t, 5, none⟩ = some (.slice none 0 0)) (hi : i < d.n) :
    Calls Ybaf.prog 23 #[.pointer (some ⟨d.t, 0, none⟩), .int .i64 i] w fun e w' => e = .returned (.tuple #[.pointer (some ⟨d.blk i, 0, none⟩), .int .i64 0]) ∧ ∃ q, w' = w.drewN q := by
  have mixed := Ybaf.laysUv.mixed
  have n2 := T.n2
  have c1 := T.blocks
  have c2 := T.starts
  have b1 := T.bs i hi
  have s1 := T.ss i hi
  have e1 : (i : Int) < (d.n : Int) := by omega
  have r1 : IntKind.i64.wrap ((i : Int) - (i : Int)) = 0 := by rw [IntKind.wrap_i64]; omega
  have hcon := bs31 d w N i 0 T hi
  have nl := nil45n
  clear T
  go_enter Ybaf.func23, Ybaf.ntmps23
  go_wp2_with (go_at_call 31; refine hcon.mono ?_; rintro e w' ⟨rfl, m, rfl⟩)
  go_quiet (fail)
  go_wp2
  go_ret2
  exact ⟨rfl, _, World.drewN_drewN _ _ _⟩

/-- The log: its one file's name, its hosts' names. -/
structure LG (w : World) (lg fb fc nb nc N : Nat) (fS : ByteArray) (hn : Nat → ByteArray) : Prop where
  files : w.cell? ⟨lg, 0, none⟩ = some (.slice (some ⟨fb, 0, none⟩) 1 fc)
  name : w.cell? ⟨fb, 0, none⟩ = some (.string fS)
  lt : lg < N ∧ fb < N ∧ nb < N

theorem Ybaf.info49 : (Ybaf.prog.info? 49).map (·.size) = some 2 := by kernel_rfl

theorem heap_set {w : World} {b : Nat} {c : Array Value} {t : TypeId} {fz : Nat × Nat} (hg : w.heap[b]? = some (.cells c t fz)) (o : Nat) (v : Value) : (w.setCell ⟨b, o, none⟩ v).heap[b]? = some (.cells (c.setIfInBounds o v) t fz) := by
  simp [World.setCell, Array.getElem?_modify, hg]

theorem made49 (w : World) (q : Nat) (a b : Value) : ((((w.alloc (Obj.cells #[Value.string { data := #[] }, Value.int IntKind.i64 0] 49)).drewN q).setCell ⟨w.heap.size, 0, none⟩ a).setCell ⟨w.heap.size, 1, none⟩ b).heap[w.heap.size]? = some (.cells #[a, b] 49 (0, 0)) := by
  have h0 : ((w.alloc (Obj.cells #[Value.string { data := #[] }, Value.int IntKind.i64 0] 49)).drewN q).heap[w.heap.size]? = some (Obj.cells #[Value.string { data := #[] }, Value.int IntKind.i64 0] 49) := heap_alloc_new w _
  exact heap_set (heap_set h0 0 a) 1 b

theorem made49_fr (w : World) (q : Nat) (a b : Value) : Fr (fun _ => False) w ((((w.alloc (Obj.cells #[Value.string { data := #[] }, Value.int IntKind.i64 0] 49)).drewN q).setCell ⟨w.heap.size, 0, none⟩ a).setCell ⟨w.heap.size, 1, none⟩ b) := by
  have h1 : Fr (fun k => k = w.heap.size) w ((((w.alloc (Obj.cells #[Value.string { data := #[] }, Value.int IntKind.i64 0] 49)).drewN q).setCell ⟨w.heap.size, 0, none⟩ a).setCell ⟨w.heap.size, 1, none⟩ b) :=
    (((Fr.alloc (X := fun k => k = w.heap.size) w _).drewN' q).set' ⟨w.heap.size, 0, none⟩ _ rfl).set' ⟨w.heap.size, 1, none⟩ _ rfl
  exact h1.mono fun i hi e => by omega

set_option maxHeartbeats 1000000 in
set_option maxRecDepth 100000 in
theorem location28 (w : World) (lg fb fc c b i : Nat) (fS : ByteArray) (B : Nat → Value) (hf : w.cell? ⟨lg, 0, none⟩ = some (.slice (some ⟨fb, 0, none⟩) 1 fc)) (hn : w.cell? ⟨fb, 0, none⟩ = some (.string fS))
    (R : Rec w c 0 14 B) (h0 : B 0 = .pointer (some ⟨b, 0, none⟩)) (h5 : B 5 = .int .i64 i) (hb : w.cell? ⟨b, 0, none⟩ = some (.int .i64 0)) :
    Calls Ybaf.prog 28 #[.pointer (some ⟨lg, 0, none⟩), .pointer (some ⟨c, 0, none⟩)] w fun e w' => e = .returned (.agg #[.string fS, .int .i64 i]) ∧ Fr (fun _ => False) w w' := by
  have mixed := Ybaf.laysUv.mixed
  have c0 := R.at 0 (by omega) (a := 0) rfl h0
  have c5 := R.at 5 (by omega) (a := 5) rfl h5
  have l1 : lg < w.heap.size := World.block_lt_of_cell? w ⟨lg, 0, none⟩ hf
  have l2 : fb < w.heap.size := World.block_lt_of_cell? w ⟨fb, 0, none⟩ hn
  have l3 : c < w.heap.size := World.block_lt_of_cell? w ⟨c, 0, none⟩ c0
  have l4 : b < w.heap.size := World.block_lt_of_cell? w ⟨b, 0, none⟩ hb
  clear R h0 h5
  go_enter Ybaf.func28, Ybaf.ntmps28
  go_wp2_with fail
  refine wp_region_last 20 mixed rfl (by kernel_rfl) (by kernel_rfl) ?_
  simp only [List.take_succ_cons, List.take_zero]
  repeat (go_big_quiet_step (fail))
  refine wpQuiet_nil ?_
  intro _ hw'
  obtain ⟨nq, hw''⟩ := hw'
  subst hw''
  go_wp2_with fail
  have hg : ((((w.alloc (Obj.cells #[Value.string { data := #[] }, Value.int IntKind.i64 0] 49)).drewN nq).setCell ⟨w.heap.size, 0, none⟩ (.string fS)).setCell ⟨w.heap.size, 1, none⟩ (.int .i64 i)).heap[w.heap.size]? = some (.cells #[.string fS, .int .i64 i] 49 (0, 0)) := made49 w nq _ _
  refine bodyPost_ret (results_cell_row rfl _ _ w.heap.size 49 #[.string fS, .int .i64 i] (0, 0) _ rfl hg Ybaf.underlying49 rfl Ybaf.info49) rfl ?_
  exact ⟨rfl, made49_fr w nq _ _⟩

/-- A new reader that passes over clocks. -/
def rd0 : Array Value := #[.pointer none, .int .i64 0, .int .i64 0, .int .i64 0, .int .i64 0, .int .i64 0, .slice none 0 0, .int .i64 0, .int .u8 2, .slice none 0 0, .bool false, .slice none 0 0, .slice none 0 0, .pointer none]

theorem rec_new (w : World) (cs : Array Value) (t : TypeId) : Rec (w.alloc (.cells cs t)) w.heap.size 0 cs.size (fun j => cs.getD j undef) where
  cell := fun j hj => by
    rw [cell_of_row _ w.heap.size (0 + j) cs t (0, 0) (heap_alloc_new w _), Nat.zero_add]
    simp [hj]
  free := fun j hj => by
    have := heap_alloc_new w (.cells cs t)
    unfold World.frozen?
    simp only [this]
    simp

theorem locate_row {W w3 w4 : World} {sz q : Nat} (h : W.heap[sz]? = some (.cells #[Value.string { data := #[] }, Value.int IntKind.i64 0] 49 (0, 0))) (F3 : Fr (fun k => k = sz + 1) (W.drewN q) w3) (F4 : Fr (fun _ => False) w3 w4) :
    w4.heap[sz]? = some (.cells #[Value.string { data := #[] }, Value.int IntKind.i64 0] 49 (0, 0)) ∧ w4.cell? ⟨sz, 0, none⟩ = some (Value.string { data := #[] }) ∧ w4.cell? ⟨sz, 1, none⟩ = some (.int .i64 0) ∧ w4.frozen? ⟨sz, 0, none⟩ = false ∧ w4.frozen? ⟨sz, 1, none⟩ = false := by
  have l1 : sz < W.heap.size := (Array.getElem?_eq_some_iff.1 h).1
  have h3 : w3.heap[sz]? = some (.cells #[Value.string { data := #[] }, Value.int IntKind.i64 0] 49 (0, 0)) := (F3.block sz l1 (by omega)).trans h
  have l3 : sz < w3.heap.size := (Array.getElem?_eq_some_iff.1 h3).1
  have h4 : w4.heap[sz]? = some (.cells #[Value.string { data := #[] }, Value.int IntKind.i64 0] 49 (0, 0)) := (F4.block sz l3 (by simp)).trans h3
  refine ⟨h4, ?_, ?_, ?_, ?_⟩
  · rw [cell_of_row w4 sz 0 _ 49 (0, 0) h4]; rfl
  · rw [cell_of_row w4 sz 1 _ 49 (0, 0) h4]; rfl
  · unfold World.frozen?; simp [h4]
  · unfold World.frozen?; simp [h4]

set_option maxHeartbeats 1000000 in
set_option maxRecDepth 100000 in
theorem locate18 (d : TD) (w : World) (N lg fb fc i : Nat) (fS : ByteArray) (hf : w.cell? ⟨lg, 0, none⟩ = some (.slice (some ⟨fb, 0, none⟩) 1 fc)) (hn : w.cell? ⟨fb, 0, none⟩ = some (.string fS))
    (T : TL d w N) (hk : w.cell? ⟨d.t, 5, none⟩ = some (.slice none 0 0)) (hN : N ≤ w.heap.size) (hi : i < d.n) :
    Calls Ybaf.prog 18 #[.pointer (some ⟨lg, 0, none⟩), .pointer (some ⟨d.t, 0, none⟩), .int .i64 i] w fun e w' => e = .returned (.agg #[.string fS, .int .i64 ((i + 1 : Nat) : Int)]) ∧ Fr (fun _ => False) w w' := by
  have mixed := Ybaf.laysUv.mixed
  have n2 := T.n2
  have F2 : Aside (Fr (fun _ => False) w ((w.alloc (Obj.cells #[Value.string { data := #[] }, Value.int IntKind.i64 0] 49)).alloc (.cells rd0 82))) :=
    (Fr.alloc (X := fun _ => False) w _).trans (Fr.alloc (X := fun _ => False) _ _) (fun _ h => h) (fun _ _ h => h)
  have H0 : Aside (((w.alloc (Obj.cells #[Value.string { data := #[] }, Value.int IntKind.i64 0] 49)).alloc (.cells rd0 82)).heap[w.heap.size]? = some (.cells #[Value.string { data := #[] }, Value.int IntKind.i64 0] 49 (0, 0))) :=
    by
    show _ = _
    rw [Below.heap_alloc _ _ _ (by simp)]; exact heap_alloc_new w _
  have R2 : Aside (Rec ((w.alloc (Obj.cells #[Value.string { data := #[] }, Value.int IntKind.i64 0] 49)).alloc (.cells rd0 82)) (w.heap.size + 1) 0 14 (fun j => rd0.getD j undef)) := by
    have := rec_new (w.alloc (Obj.cells #[Value.string { data := #[] }, Value.int IntKind.i64 0] 49)) rd0 82
    rw [show (w.alloc (Obj.cells #[Value.string { data := #[] }, Value.int IntKind.i64 0] 49)).heap.size = w.heap.size + 1 from by simp] at this
    exact this
  have hf0 : Aside _ := hf
  have hn0 : Aside _ := hn
  have T0 : Aside _ := T
  have hk0 : Aside _ := hk
  have HN : Hid (N ≤ w.heap.size) := hN
  clear hf hn T hk hN
  go_enter Ybaf.func18, Ybaf.ntmps18
  go_wp2_with fail
  change Calls _ _ _ ((w.alloc (Obj.cells #[Value.string { data := #[] }, Value.int IntKind.i64 0] 49)).alloc (.cells rd0 82)) _
  obtain ⟨sz, hsz⟩ : ∃ sz, w.heap.size = sz := ⟨_, rfl⟩
  rw [hsz] at R2 H0 ⊢
  generalize (w.alloc (Obj.cells #[Value.string { data := #[] }, Value.int IntKind.i64 0] 49)).alloc (.cells rd0 82) = W at F2 R2 H0 ⊢
  have T2 := T0.out.fr F2.out (by simp)
  have hcon1 := at23 d W N i T2 (F2.out.cell hk0.out (by simp)) hi
  have L := T2.ltB i hi
  have HN1 := HN.out
  have hcon2 := fun q => seekC (sz + 1) 0 (d.blk i) i d.h (d.ps i) (d.bi i) (d.bd i) (d.bm i) (d.nn i) (d.cd i) _ (W.drewN q) (R2.out.drewN q) ((T2.bk i hi).fr (Fr.drewN (X := fun _ => False) W q) (by simp) (by simp) (by simp) (by simp)) (by omega) rfl rfl rfl (by omega) (by omega) (by omega) (by omega)
  have kf := (T2.bk i hi).file
  clear T2 L
  have lgs : lg ≠ sz + 1 := by have := World.block_lt_of_cell? w ⟨lg, 0, none⟩ hf0.out; simp only at this; omega
  have fbs : fb ≠ sz + 1 := by have := World.block_lt_of_cell? w ⟨fb, 0, none⟩ hn0.out; simp only at this; omega
  have bls : d.blk i ≠ sz + 1 := by have := (T0.out.ltB i hi).1; omega
  have hfW := F2.out.cell hf0.out (by simp)
  have hnW := F2.out.cell hn0.out (by simp)
  have kf0 : Aside _ := kf
  have hfW0 : Aside _ := hfW
  have hnW0 : Aside _ := hnW
  clear kf hfW hnW
  go_wp2_with (first | (go_at_call 23; refine hcon1.mono ?_; rintro e w' ⟨rfl, q1, rfl⟩) | (go_at_call 22; refine (hcon2 _).mono ?_; rintro e w3 ⟨rfl, B', R3, b0, b5, F3⟩; have loc := location28 w3 lg fb fc (sz + 1) (d.blk i) (i + 1) fS B' (F3.cell hfW0.out lgs) (F3.cell hnW0.out fbs) R3 b0 b5 (F3.cell kf0.out bls)) | (go_at_call 28; refine loc.mono ?_; rintro e w4 ⟨rfl, F4⟩; have G4 := locate_row H0.out F3 F4; have s0 := G4.2.1; have s1 := G4.2.2.1; have sf0 := G4.2.2.2.1; have sf1 := G4.2.2.2.2))
  have hg := heap_set (heap_set G4.1 0 (.string fS)) 1 (.int .i64 ((i : Int) + 1))
  refine bodyPost_ret (results_cell_row rfl _ _ sz 49 #[.string fS, .int .i64 ((i : Int) + 1)] (0, 0) _ rfl hg Ybaf.underlying49 rfl Ybaf.info49) rfl ?_
  refine ⟨rfl, ?_⟩
  have FX : Fr (fun k => k = sz ∨ k = sz + 1) w ((w4.setCell ⟨sz, 0, none⟩ (.string fS)).setCell ⟨sz, 1, none⟩ (.int .i64 ((i : Int) + 1))) :=
    ((((F2.out.drewN' _).trans F3 (Z := fun k => k = sz ∨ k = sz + 1) (fun _ h => h.elim) (fun _ _ h => Or.inr h)).trans F4 (fun _ h => h) (fun _ _ h => h.elim)).set' ⟨sz, 0, none⟩ _ (Or.inl rfl)).set' ⟨sz, 1, none⟩ _ (Or.inl rfl)
  exact FX.mono fun k hk e => by omega
end Go.Proofs.YbulkbyweFmt
