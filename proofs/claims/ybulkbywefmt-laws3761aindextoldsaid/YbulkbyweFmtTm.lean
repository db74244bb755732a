import Derived.Test.YbulkbyweFmtMod
import Derived.Test.YbulkbyweFmtAt
import Derived.Maps.AppendAt
import Derived.Shelf.Bin.AppendUvarint
namespace Go.Proofs.YbulkbyweFmt
open Go.Shelf Go.RowKit Go.Lib Go.Sort Go.Proofs

shelf_lay LaysBin.n47 Mn 47 at Ybaf as Ybaf.laysAu

theorem append9 (B n x : Nat) (hx : x < 18446744073709551616) (sv : Value) (xs : List Value) (w : World) (hown : w.ownsRow B 5 1 sv n xs) (hBw : B ≤ w.heap.size) (hlim : n + 10 ≤ 140737488355328) :
    Calls Ybaf.prog 9 #[sv, .int .u64 x] w fun e w' => ∃ v', e = .returned v' ∧ w'.ownsRow B 5 1 v' (n + (Lib.uvarint x).length) (xs ++ Lib.byteCells (Lib.uvarint x)) ∧ Below B w w' :=
  Any.binary_AppendUvarint Ybaf.laysAu B n x hx sv xs w hown hBw hlim

theorem Ybaf.info63 : (Ybaf.prog.info? 63).map (fun i => (i.zero, i.size, i.bytes)) = some (some (.pointer none), 1, 8) := by kernel_rfl


/-- A timeline that is being built: its rows hold na and nb, its counter says nc, m blocks are there. -/
structure TP (w : World) (t h na nb nc m : Nat) (sk : Bool) (ps : Nat → Nat) (bv sv : Value) (blk bi bd bm nn cd : Nat → Nat) : Prop where
  rcd : ∃ D, Rec w t 0 9 D ∧ D 0 = .int .i32 h ∧ D 1 = bv ∧ D 2 = sv ∧ D 3 = .int .i64 nc ∧ D 4 = .bool sk ∧ D 5 = .slice none 0 0 ∧ D 6 = .slice none 0 0
  ob : w.ownsRow (t + 1) 63 1 bv na ((List.range na).map fun j => .pointer (some ⟨blk j, 0, none⟩))
  os : w.ownsRow (t + 1) 3 1 sv nb ((List.range nb).map fun j : Nat => .int .i64 j)
  bk : ∀ j, j < m → Blk w (blk j) j h (ps j) (bi j) (bd j) (bm j) (nn j) (cd j)
  lo : ∀ j, j < m → t < blk j ∧ t < bi j ∧ t < bd j ∧ t < bm j
  nb_ : ∀ j k, j < m → bv.ownBlock = some k → k ≠ blk j ∧ k ≠ bi j ∧ k ≠ bd j ∧ k ≠ bm j
  ns_ : ∀ j k, j < m → sv.ownBlock = some k → k ≠ blk j ∧ k ≠ bi j ∧ k ≠ bd j ∧ k ≠ bm j
  no : ∀ k, bv.ownBlock = some k → sv.ownBlock ≠ some k
  inj : ∀ a b, a < m → b < m → blk a = blk b → a = b

section
variable {w w' : World} {t h na nb nc m : Nat} {sk : Bool} {ps : Nat → Nat} {bv sv : Value} {blk bi bd bm nn cd : Nat → Nat}

theorem TP.lt (T : TP w t h na nb nc m sk ps bv sv blk bi bd bm nn cd) : t < w.heap.size := by
  obtain ⟨D, R, -⟩ := T.rcd
  exact World.block_lt_of_cell? w ⟨t, 0 + 0, none⟩ (R.cell 0 (by omega))

theorem TP.fr {X : Nat → Prop} (T : TP w t h na nb nc m sk ps bv sv blk bi bd bm nn cd) (f : Fr X w w') (hX : ∀ k, k < w.heap.size → ¬ X k) : TP w' t h na nb nc m sk ps bv sv blk bi bd bm nn cd where
  rcd := by
    obtain ⟨D, R, r⟩ := T.rcd
    exact ⟨D, R.fr f (hX _ T.lt), r⟩
  ob := f.owns T.ob fun k hk => hX k (T.ob.lt k hk).2
  os := f.owns T.os fun k hk => hX k (T.os.lt k hk).2
  bk := fun j hj => (T.bk j hj).fr f (hX _ (T.bk j hj).lt.1) (hX _ (T.bk j hj).lt.2.1) (hX _ (T.bk j hj).lt.2.2.1) (hX _ (T.bk j hj).lt.2.2.2)
  lo := T.lo
  nb_ := T.nb_
  ns_ := T.ns_
  no := T.no
  inj := T.inj

/-- f, but at m: v. -/
def updN (f : Nat → Nat) (m v : Nat) : Nat → Nat := fun j => if j = m then v else f j
theorem updN_same (f : Nat → Nat) (m v : Nat) : updN f m v m = v := by simp [updN]
theorem updN_ne (f : Nat → Nat) (m v j : Nat) (hj : j ≠ m) : updN f m v j = f j := by simp [updN, hj]

/-- A new block, in memory that came up behind the world w0 of the round's beginning. -/
theorem TP.addBlk {w0 : World} (T : TP w0 t h m m m m sk ps bv sv blk bi bd bm nn cd) (f : Fr (fun k => w0.heap.size ≤ k) w0 w) (k1 k2 k3 k4 k5 k6 : Nat) (B : Blk w k1 m h (ps m) k2 k3 k4 k5 k6) (h1 : w0.heap.size ≤ k1) (h2 : w0.heap.size ≤ k2) (h3 : w0.heap.size ≤ k3) (h4 : w0.heap.size ≤ k4) :
    TP w t h m m m (m + 1) sk ps bv sv (updN blk m k1) (updN bi m k2) (updN bd m k3) (updN bm m k4) (updN nn m k5) (updN cd m k6) := by
  have T' := T.fr f (fun k hk h => by omega)
  have ht := T.lt
  refine ⟨T'.rcd, ?_, T'.os, fun j hj => ?_, fun j hj => ?_, fun j k hj hk => ?_, fun j k hj hk => ?_, T.no, fun a b ha hb hab => ?_⟩
  · have e : (List.range m).map (fun j => Value.pointer (some ⟨updN blk m k1 j, 0, none⟩)) = (List.range m).map (fun j => Value.pointer (some ⟨blk j, 0, none⟩)) := by
      apply List.map_congr_left
      intro j hj
      rw [updN_ne _ _ _ _ (by have := List.mem_range.1 hj; omega)]
    rw [e]; exact T'.ob
  · by_cases e : j = m
    · subst e; simp only [updN_same]; exact B
    · simp only [updN_ne _ _ _ _ e]; exact T'.bk j (by omega)
  · by_cases e : j = m
    · subst e; simp only [updN_same]; exact ⟨by omega, by omega, by omega, by omega⟩
    · simp only [updN_ne _ _ _ _ e]; exact T.lo j (by omega)
  · have hk' := (T.ob.lt k hk).2
    by_cases e : j = m
    · subst e; simp only [updN_same]; exact ⟨by omega, by omega, by omega, by omega⟩
    · simp only [updN_ne _ _ _ _ e]; exact T.nb_ j k (by omega) hk
  · have hk' := (T.os.lt k hk).2
    by_cases e : j = m
    · subst e; simp only [updN_same]; exact ⟨by omega, by omega, by omega, by omega⟩
    · simp only [updN_ne _ _ _ _ e]; exact T.ns_ j k (by omega) hk
  · by_cases e1 : a = m <;> by_cases e2 : b = m
    · omega
    · rw [e1, updN_same, updN_ne _ _ _ _ e2] at hab
      have := (T.bk b (by omega)).lt.1; omega
    · rw [e2, updN_same, updN_ne _ _ _ _ e1] at hab
      have := (T.bk a (by omega)).lt.1; omega
    · rw [updN_ne _ _ _ _ e1, updN_ne _ _ _ _ e2] at hab
      exact T.inj a b (by omega) (by omega) hab

/-- The block's pointer is appended. -/
theorem TP.addB {w1 : World} {bv' : Value} (T : TP w t h na nb nc m sk ps bv sv blk bi bd bm nn cd) (f : Fr (fun _ => False) w w1) (O : w'.ownsRow (t + 1) 63 1 bv' (na + 1) (((List.range na).map fun j => .pointer (some ⟨blk j, 0, none⟩)) ++ [.pointer (some ⟨blk na, 0, none⟩)]))
    (G : w1.grownBy w' bv.ownBlock) (hat : bv'.ownBlock = bv.ownBlock ∨ bv'.ownBlock = some w1.heap.size) : TP (w'.setCell ⟨t, 1, none⟩ bv') t h (na + 1) nb nc m sk ps bv' sv blk bi bd bm nn cd := by
  have T1 := T.fr f (by simp)
  have fg : Fr (fun k => bv.ownBlock = some k) w1 w' := Fr.grown G fun k hk => hk
  have fs : Fr (fun k => k = t) w' (w'.setCell ⟨t, 1, none⟩ bv') := Fr.setCell w' ⟨t, 1, none⟩ bv' rfl
  have ht := T1.lt
  refine ⟨?_, ?_, ?_, fun j hj => ?_, T.lo, fun j k hj hk => ?_, T.ns_, fun k hk => ?_, T.inj⟩
  · obtain ⟨D, R, d0, d1, d2, d3, d4, d5, d6⟩ := T1.rcd
    refine ⟨updB D 1 bv', (R.fr fg (fun e => by have := (T1.ob.lt t e).1; omega)).set' 1 (by omega) _ rfl _, d0, rfl, d2, d3, d4, d5, d6⟩
  · rw [List.range_succ, List.map_append]
    exact fs.owns O fun k hk => by have := (O.lt k hk).1; omega
  · exact fs.owns (fg.owns T1.os fun k hk e => T.no k e hk) fun k hk => by have := (T1.os.lt k hk).1; omega
  · have K := T1.bk j hj
    have L := T.lo j hj
    exact (K.fr fg (fun e => (T.nb_ j _ hj e).1 rfl) (fun e => (T.nb_ j _ hj e).2.1 rfl) (fun e => (T.nb_ j _ hj e).2.2.1 rfl) (fun e => (T.nb_ j _ hj e).2.2.2 rfl)).fr fs (by omega) (by omega) (by omega) (by omega)
  · rcases hat with e | e
    · rw [e] at hk; exact T.nb_ j k hj hk
    · rw [e] at hk
      injection hk with hk
      have := (T1.bk j hj).lt
      exact ⟨by omega, by omega, by omega, by omega⟩
  · rcases hat with e | e
    · rw [e] at hk; exact T.no k hk
    · rw [e] at hk
      injection hk with hk
      intro hs
      have := (T1.os.lt k hs).2; omega

/-- The start is appended. -/
theorem TP.addS {w1 : World} {sv' : Value} (T : TP w t h na nb nc m sk ps bv sv blk bi bd bm nn cd) (f : Fr (fun _ => False) w w1) (O : w'.ownsRow (t + 1) 3 1 sv' (nb + 1) (((List.range nb).map fun j : Nat => .int .i64 j) ++ [.int .i64 (nb : Int)]))
    (G : w1.grownBy w' sv.ownBlock) (hat : sv'.ownBlock = sv.ownBlock ∨ sv'.ownBlock = some w1.heap.size) : TP (w'.setCell ⟨t, 2, none⟩ sv') t h na (nb + 1) nc m sk ps bv sv' blk bi bd bm nn cd := by
  have T1 := T.fr f (by simp)
  have fg : Fr (fun k => sv.ownBlock = some k) w1 w' := Fr.grown G fun k hk => hk
  have fs : Fr (fun k => k = t) w' (w'.setCell ⟨t, 2, none⟩ sv') := Fr.setCell w' ⟨t, 2, none⟩ sv' rfl
  have ht := T1.lt
  refine ⟨?_, ?_, ?_, fun j hj => ?_, T.lo, T.nb_, fun j k hj hk => ?_, fun k hk => ?_, T.inj⟩
  · obtain ⟨D, R, d0, d1, d2, d3, d4, d5, d6⟩ := T1.rcd
    refine ⟨updB D 2 sv', (R.fr fg (fun e => by have := (T1.os.lt t e).1; omega)).set' 2 (by omega) _ rfl _, d0, d1, rfl, d3, d4, d5, d6⟩
  · exact fs.owns (fg.owns T1.ob fun k hk e => T.no k hk e) fun k hk => by have := (T1.ob.lt k hk).1; omega
  · rw [List.range_succ, List.map_append]
    exact fs.owns O fun k hk => by have := (O.lt k hk).1; omega
  · have K := T1.bk j hj
    have L := T.lo j hj
    exact (K.fr fg (fun e => (T.ns_ j _ hj e).1 rfl) (fun e => (T.ns_ j _ hj e).2.1 rfl) (fun e => (T.ns_ j _ hj e).2.2.1 rfl) (fun e => (T.ns_ j _ hj e).2.2.2 rfl)).fr fs (by omega) (by omega) (by omega) (by omega)
  · rcases hat with e | e
    · rw [e] at hk; exact T.ns_ j k hj hk
    · rw [e] at hk
      injection hk with hk
      have := (T1.bk j hj).lt
      exact ⟨by omega, by omega, by omega, by omega⟩
  · rcases hat with e | e
    · rw [e]; exact T.no k hk
    · rw [e]
      intro hs
      injection hs with hs
      have := (T1.ob.lt k hk).2; omega

/-- The counter. -/
theorem TP.addN (T : TP w t h na nb nc m sk ps bv sv blk bi bd bm nn cd) : TP (w.setCell ⟨t, 3, none⟩ (.int .i64 ((nc + 1 : Nat) : Int))) t h na nb (nc + 1) m sk ps bv sv blk bi bd bm nn cd := by
  have fs : Fr (fun k => k = t) w (w.setCell ⟨t, 3, none⟩ (.int .i64 ((nc + 1 : Nat) : Int))) := Fr.setCell w ⟨t, 3, none⟩ _ rfl
  refine ⟨?_, fs.owns T.ob fun k hk => by have := (T.ob.lt k hk).1; omega, fs.owns T.os fun k hk => by have := (T.os.lt k hk).1; omega, fun j hj => ?_, T.lo, T.nb_, T.ns_, T.no, T.inj⟩
  · obtain ⟨D, R, d0, d1, d2, d3, d4, d5, d6⟩ := T.rcd
    exact ⟨updB D 3 _, R.set' 3 (by omega) _ rfl _, d0, d1, d2, rfl, d4, d5, d6⟩
  · have K := T.bk j hj
    have L := T.lo j hj
    exact K.fr fs (by omega) (by omega) (by omega) (by omega)
end

theorem data_of {w2 : World} {B x : Nat} {v2 : Value} (O2 : w2.ownsRow B 5 1 v2 (5 + (Lib.uvarint x).length) ([.int .u8 0, .int .u8 0, .int .u8 0, .int .u8 1, .int .u8 0] ++ Lib.byteCells (Lib.uvarint x))) :
    ∃ gd cdd, v2 = .slice (some ⟨gd, 0, none⟩) (5 + (Lib.uvarint x).length) cdd ∧ B ≤ gd ∧ 5 + (Lib.uvarint x).length ≤ cdd ∧ Bytes w2 gd x := by
  have h0 : v2 ≠ .slice none 0 0 := fun e => by
    rcases O2.2 with ⟨-, h⟩ | ⟨_, _, _, h, -⟩
    · omega
    · rw [e] at h; cases h
  obtain ⟨gd, cdd, rfl, hgd, hbc⟩ := own_at O2 h0
  refine ⟨gd, cdd, rfl, hgd, ?_, fun j hj => ?_⟩
  · rcases O2.2 with ⟨h, -⟩ | ⟨_, _, _, h, -, -, h2, -⟩
    · cases h
    · injection h with _ _ h; omega
  · refine hbc j _ ?_
    have hl := dataOf_len x
    by_cases h5 : j < 5
    · match j, h5 with
      | 0, _ => rfl
      | 1, _ => rfl
      | 2, _ => rfl
      | 3, _ => rfl
      | 4, _ => rfl
    · rw [List.getElem?_append_right (by simp; omega)]
      simp only [Lib.byteCells, List.getElem?_map, dataOf]
      rw [List.getElem_append_right (by simp; omega)]
      simp only [List.length_cons, List.length_nil]
      rw [List.getElem?_eq_getElem (by omega)]
      rfl

theorem new_blk {w2 : World} {gd x : Nat} (BY : Bytes w2 gd x) (h i m cdd : Nat) (hl : (dataOf x).length = m) (hcap : m ≤ cdd) (hx : x < 18446744073709551616) :
    Blk (((w2.alloc (.cells #[.int .i32 h] 41)).alloc (.cells #[.int .i64 0] 3)).alloc (.cells #[.int .i64 0, .int .i64 0, .int .i64 ((i : Int) + 1), .slice (some ⟨w2.heap.size, 0, none⟩) 1 1, .int .i32 0, .int .i64 1, .int .u64 x, .bool true, .slice (some ⟨gd, 0, none⟩) m cdd, .slice (some ⟨w2.heap.size + 1, 0, none⟩) 1 1, .slice none 0 0, .slice none 0 0, .int .i64 0] 67))
      (w2.heap.size + 1 + 1) i h x w2.heap.size gd (w2.heap.size + 1) m cdd := by
  have F1 : Fr (fun _ => False) w2 (((w2.alloc (.cells #[.int .i32 h] 41)).alloc (.cells #[.int .i64 0] 3)).alloc (.cells #[.int .i64 0, .int .i64 0, .int .i64 ((i : Int) + 1), .slice (some ⟨w2.heap.size, 0, none⟩) 1 1, .int .i32 0, .int .i64 1, .int .u64 x, .bool true, .slice (some ⟨gd, 0, none⟩) m cdd, .slice (some ⟨w2.heap.size + 1, 0, none⟩) 1 1, .slice none 0 0, .slice none 0 0, .int .i64 0] 67)) :=
    ((Fr.alloc (X := fun _ => False) w2 _).trans (Fr.alloc (X := fun _ => False) _ _) (fun _ h => h) (fun _ _ h => h)).trans (Fr.alloc (X := fun _ => False) _ _) (fun _ h => h) (fun _ _ h => h)
  have e : ((w2.alloc (.cells #[.int .i32 h] 41)).alloc (.cells #[.int .i64 0] 3)).heap.size = w2.heap.size + 1 + 1 := by simp
  have e1 : (w2.alloc (.cells #[.int .i32 h] 41)).heap.size = w2.heap.size + 1 := by simp
  have R := rec_new ((w2.alloc (.cells #[.int .i32 h] 41)).alloc (.cells #[.int .i64 0] 3)) #[.int .i64 0, .int .i64 0, .int .i64 ((i : Int) + 1), .slice (some ⟨w2.heap.size, 0, none⟩) 1 1, .int .i32 0, .int .i64 1, .int .u64 x, .bool true, .slice (some ⟨gd, 0, none⟩) m cdd, .slice (some ⟨w2.heap.size + 1, 0, none⟩) 1 1, .slice none 0 0, .slice none 0 0, .int .i64 0] 67
  have O := heap_alloc_new ((w2.alloc (.cells #[.int .i32 h] 41)).alloc (.cells #[.int .i64 0] 3)) (.cells #[.int .i64 0, .int .i64 0, .int .i64 ((i : Int) + 1), .slice (some ⟨w2.heap.size, 0, none⟩) 1 1, .int .i32 0, .int .i64 1, .int .u64 x, .bool true, .slice (some ⟨gd, 0, none⟩) m cdd, .slice (some ⟨w2.heap.size + 1, 0, none⟩) 1 1, .slice none 0 0, .slice none 0 0, .int .i64 0] 67)
  rw [e] at R O
  have R1 := rec_new (w2.alloc (.cells #[.int .i32 h] 41)) #[.int .i64 0] 3
  rw [e1] at R1
  have R0 := rec_new w2 #[.int .i32 h] 41
  exact ⟨R.cell 0 (by simp), R.cell 1 (by simp), R.cell 2 (by simp), R.cell 3 (by simp), R.cell 4 (by simp), R.cell 5 (by simp), R.cell 6 (by simp), R.cell 7 (by simp), R.cell 8 (by simp), R.cell 9 (by simp),
    (Fr.alloc (X := fun _ => False) _ _).cell ((Fr.alloc (X := fun _ => False) _ _).cell (R0.cell 0 (by simp)) (by simp)) (by simp), (Fr.alloc (X := fun _ => False) _ _).cell (R1.cell 0 (by simp)) (by simp), fun j hj => F1.cell (BY j hj) (by simp), hl, hcap, hx, ⟨_, O⟩⟩

/-- A timeline, of any length, in blocks from H up to N; its last cells are nil. -/
structure TLo (d : TD) (w : World) (H N : Nat) : Prop where
  rcd : ∃ D, Rec w d.t 0 9 D ∧ D 5 = .slice none 0 0 ∧ D 6 = .slice none 0 0
  nil : d.n = 0 → ∃ a c, w.cell? ⟨d.t, 1, none⟩ = some (.slice a 0 c)
  row : 1 ≤ d.n → TL d w N
  t0 : H ≤ d.t ∧ d.t < N
  lo : 1 ≤ d.n → H ≤ d.bb ∧ H ≤ d.sb ∧ ∀ i, i < d.n → H ≤ d.blk i ∧ H ≤ d.bi i ∧ H ≤ d.bd i ∧ H ≤ d.bm i

theorem range_get {α : Type} (f : Nat → α) (n i : Nat) (h : i < n) : ((List.range n).map f)[i]? = some (f i) := by
  rw [List.getElem?_map, List.getElem?_range h]; rfl

theorem TP.toTL {w : World} {t h n : Nat} {sk : Bool} {ps : Nat → Nat} {bv sv : Value} {blk bi bd bm nn cd : Nat → Nat} (T : TP w t h n n n n sk ps bv sv blk bi bd bm nn cd) (n2 : n ≤ 512) (hh : h = 0 ∨ h = 1) :
    ∃ d : TD, d.t = t ∧ d.h = h ∧ d.n = n ∧ d.sk = sk ∧ d.ps = ps ∧ TLo d w t w.heap.size := by
  obtain ⟨D, R, d0, d1, d2, d3, d4, d5, d6⟩ := T.rcd
  have ht := T.lt
  by_cases n1 : 1 ≤ n
  · have nz : ∀ {e s m : Nat} {v : Value} {xs : List Value}, w.ownsRow (t + 1) e s v m xs → m = n → v ≠ .slice none 0 0 := fun O hm e => by
      rcases O.2 with ⟨-, h⟩ | ⟨_, _, _, h, -⟩
      · omega
      · rw [e] at h; cases h
    obtain ⟨bb, bc, rfl, hb1, hb2⟩ := own_at T.ob (nz T.ob rfl)
    obtain ⟨sb, sc, rfl, hs1, hs2⟩ := own_at T.os (nz T.os rfl)
    refine ⟨⟨t, h, n, bb, bc, sb, sc, sk, blk, bi, bd, bm, nn, cd, ps⟩, rfl, rfl, rfl, rfl, rfl, ⟨D, R, d5, d6⟩, fun h => absurd h (by show ¬ n = 0; omega), fun _ => ?_, ⟨Nat.le_refl _, ht⟩, fun _ => ⟨by show t ≤ bb; omega, by show t ≤ sb; omega, fun i hi => by have := T.lo i hi; exact ⟨by show t ≤ blk i; omega, by show t ≤ bi i; omega, by show t ≤ bd i; omega, by show t ≤ bm i; omega⟩⟩⟩
    refine ⟨R.at 0 (by omega) (a := 0) rfl d0, R.at 1 (by omega) (a := 1) rfl d1, R.at 2 (by omega) (a := 2) rfl d2, R.at 3 (by omega) (a := 3) rfl d3, R.at 4 (by omega) (a := 4) rfl d4, fun i hi => hb2 i _ (range_get _ _ _ hi), fun i hi => hs2 i _ (range_get _ _ _ hi), T.bk, T.inj, ⟨ht, (T.ob.lt bb rfl).2, (T.os.lt sb rfl).2⟩, fun i hi => (T.bk i hi).lt, ⟨by show t ≠ bb; omega, by show t ≠ sb; omega⟩, fun i hi => ?_, hh, n1, n2⟩
    have := T.lo i hi
    exact ⟨by show t ≠ blk i; omega, by show t ≠ bi i; omega, by show t ≠ bd i; omega, by show t ≠ bm i; omega⟩
  · have h0 : n = 0 := by omega
    have hbv : ∃ a c, bv = .slice a 0 c := by
      subst h0
      rcases T.ob.2 with ⟨h, -⟩ | ⟨g, c, _, h, -⟩
      · exact ⟨_, _, h⟩
      · exact ⟨_, _, h⟩
    obtain ⟨a, c, rfl⟩ := hbv
    exact ⟨⟨t, h, n, 0, 0, 0, 0, sk, blk, bi, bd, bm, nn, cd, ps⟩, rfl, rfl, rfl, rfl, rfl, ⟨D, R, d5, d6⟩, fun _ => ⟨a, c, R.at 1 (by omega) (a := 1) rfl d1⟩, fun h => absurd h n1, ⟨Nat.le_refl _, ht⟩, fun h => absurd h n1⟩

theorem rec_new9 (w : World) (cs : Array Value) (ty : TypeId) (h : cs.size = 9) : Rec (w.alloc (.cells cs ty)) w.heap.size 0 9 (fun j => cs.getD j undef) := by
  have := rec_new w cs ty
  rw [h] at this
  exact this

set_option maxHeartbeats 1000000 in
set_option maxRecDepth 100000 in
theorem timeline4 (w : World) (h : Nat) (av : Option Addr) (n cap b o N : Nat) (ps : Nat → Nat) (sk : Bool) (S : SrcAt w av n cap b o N ps) (hN : N ≤ w.heap.size) (hh : h = 0 ∨ h = 1) :
    Calls Ybaf.prog 4 #[.int .i32 h, .slice av n cap, .bool sk] w fun e w' => ∃ d : TD, e = .returned (.pointer (some ⟨d.t, 0, none⟩)) ∧ d.h = h ∧ d.n = n ∧ d.sk = sk ∧ d.ps = ps ∧ TLo d w' w.heap.size w'.heap.size ∧ Fr (fun _ => False) w w' := by
  have mixed := Ybaf.laysUv.mixed
  have n2 := S.n2
  have HH : Aside _ := hh
  clear hh
  have S0 : Aside _ := S
  have HN : Hid (N ≤ w.heap.size) := hN
  clear S hN
  go_enter Ybaf.func4, Ybaf.ntmps4
  go_upto_block 0 with fail
  have T0 : Aside (TP (w.alloc (.cells #[.int .i32 h, .slice none 0 0, .slice none 0 0, .int .i64 0, .bool sk, .slice none 0 0, .slice none 0 0, .slice none 0 0, .slice none 0 0] 57)) w.heap.size h 0 0 0 0 sk ps (.slice none 0 0) (.slice none 0 0) id id id id id id) :=
    ⟨⟨fun j => #[.int .i32 h, .slice none 0 0, .slice none 0 0, .int .i64 0, .bool sk, .slice none 0 0, .slice none 0 0, .slice none 0 0, .slice none 0 0].getD j undef, rec_new9 w _ _ rfl, rfl, rfl, rfl, rfl, rfl, rfl, rfl⟩, World.ownsRow_nil _ _ _ _, World.ownsRow_nil _ _ _ _, by omega, by omega, by omega, by omega, by simp [Value.ownBlock], by omega⟩
  have F0 : Aside _ := Fr.alloc (X := fun k => w.heap.size ≤ k) w (.cells #[.int .i32 h, .slice none 0 0, .slice none 0 0, .int .i64 0, .bool sk, .slice none 0 0, .slice none 0 0, .slice none 0 0, .slice none 0 0] 57)
  obtain ⟨t, ht⟩ : ∃ t, w.heap.size = t := ⟨_, rfl⟩
  rw [ht] at T0 F0
  have HT : Hid (w.heap.size = t) := ht
  generalize w.alloc (.cells #[.int .i32 h, .slice none 0 0, .slice none 0 0, .int .i64 0, .bool sk, .slice none 0 0, .slice none 0 0, .slice none 0 0, .slice none 0 0] 57) = W1 at T0 F0 ⊢
  rw [ht]
  clear ht
  obtain ⟨i6, hi6, hz60, hz61, hz62⟩ := info_parts Ybaf.info63
  obtain ⟨i3, hi3, hz30, hz31, hz32⟩ := info_parts Ybaf.info3
  go_cut [] from 18 to 63 (fun wd => Aside (∃ bv sv blk bi bd bm nn cd, TP wd t h n n n n sk ps bv sv blk bi bd bm nn cd) ∧ Aside (Fr (fun k => t ≤ k) w wd))
  case first =>
    go_wp2_with fail
    go_loopg [18] n (fun kx s18 wr => ∃ i : Nat, s18 = .int .i64 i ∧ i ≤ n ∧ n - i ≤ kx ∧ Aside (∃ bv sv blk bi bd bm nn cd, TP wr t h i i i i sk ps bv sv blk bi bd bm nn cd) ∧ Aside (Fr (fun k => t ≤ k) w wr))
    case atStart => exact ⟨0, rfl, by omega, by omega, ⟨_, _, _, _, _, _, _, _, T0.out⟩, F0⟩
    case round =>
      clear T0 F0
      obtain ⟨i, rfl, hi, hkx, TT, F1⟩ := hrel
      by_cases hlt : i < n
      · have e1 : (i : Int) < (n : Int) := by omega
        obtain ⟨bv, sv, blk, bi, bd, bm, nn, cd, T1⟩ := TT.out
        have T1 : Aside _ := T1
        clear TT
        obtain ⟨b1, c1, x1⟩ := (S0.out.fr F1.out (fun k hk e => by have := HT.out; have := HN.out; omega)).at_ i hlt
        have hx := S0.out.rng i hlt
        obtain ⟨x, hpx⟩ : ∃ x, ps i = x := ⟨_, rfl⟩
        rw [hpx] at c1 hx
        have HPX : Aside _ := hpx
        clear hpx
        have hcon := append9 wr.heap.size 5 x hx (.slice (some ⟨wr.heap.size, 0, none⟩) 5 5) [.int .u8 0, .int .u8 0, .int .u8 0, .int .u8 1, .int .u8 0] (wr.alloc (.cells #[.int .u8 0, .int .u8 0, .int .u8 0, .int .u8 1, .int .u8 0] 5))
          ⟨rfl, .inr ⟨wr.heap.size, 5, _, rfl, Nat.le_refl _, heap_alloc_new _ _, by omega, by unfold maxLen; omega, rfl, rfl⟩⟩ (by simp) (by omega)
        go_upto_region 7 with (go_at_call 9; refine hcon.mono ?_; rintro e w2 ⟨v2, rfl, O2, B2⟩)
        have F2 : Aside (Fr (fun k => wr.heap.size ≤ k) wr w2) := (Fr.alloc (X := fun _ => False) wr _).trans (Fr.below (X := fun k => wr.heap.size ≤ k) B2 (fun k _ h => by omega)) (fun _ h => h.elim) (fun _ _ h => h)
        have hul := Lib.uvarint_length64 hx
        obtain ⟨gd, cdd, rfl, hgd, hcap, BY0⟩ := data_of O2
        have BY : Aside (Bytes w2 gd x) := BY0
        clear BY0
        have HLE : Aside ((dataOf x).length = 5 + (Lib.uvarint x).length) := by show _ = _; rw [dataOf_len]; omega
        obtain ⟨m, hm⟩ : ∃ m, 5 + (Lib.uvarint x).length = m := ⟨_, rfl⟩
        rw [hm] at hcap HLE ⊢
        clear O2 B2 hm hul hcon
        have hgw : Hid (gd < w2.heap.size) := World.block_lt_of_cell? w2 ⟨gd, 0, none⟩ (Bytes.head BY.out).1
        go_upto_region 8 with (fail)
        have T2 : Aside _ := T1.out.addBlk (w := ((w2.alloc (.cells #[.int .i32 h] 41)).alloc (.cells #[.int .i64 0] 3)).alloc (.cells #[.int .i64 0, .int .i64 0, .int .i64 ((i : Int) + 1), .slice (some ⟨w2.heap.size, 0, none⟩) 1 1, .int .i32 0, .int .i64 1, .int .u64 x, .bool true, .slice (some ⟨gd, 0, none⟩) m cdd, .slice (some ⟨w2.heap.size + 1, 0, none⟩) 1 1, .slice none 0 0, .slice none 0 0, .int .i64 0] 67))
          (((F2.out.trans (Fr.alloc (X := fun _ => False) w2 _) (fun _ h => h) (fun _ _ h => h.elim)).trans (Fr.alloc (X := fun _ => False) _ _) (fun _ h => h) (fun _ _ h => h.elim)).trans (Fr.alloc (X := fun _ => False) _ _) (fun _ h => h) (fun _ _ h => h.elim)) (w2.heap.size + 1 + 1) w2.heap.size gd (w2.heap.size + 1) m cdd (by rw [HPX.out]; exact new_blk BY.out h i m cdd HLE.out hcap hx) (by have := F2.out.size; omega) F2.out.size hgd (by have := F2.out.size; omega)
        have F3 : Aside (Fr (fun k => t ≤ k) w (((w2.alloc (.cells #[.int .i32 h] 41)).alloc (.cells #[.int .i64 0] 3)).alloc (.cells #[.int .i64 0, .int .i64 0, .int .i64 ((i : Int) + 1), .slice (some ⟨w2.heap.size, 0, none⟩) 1 1, .int .i32 0, .int .i64 1, .int .u64 x, .bool true, .slice (some ⟨gd, 0, none⟩) m cdd, .slice (some ⟨w2.heap.size + 1, 0, none⟩) 1 1, .slice none 0 0, .slice none 0 0, .int .i64 0] 67))) :=
          (((F1.out.trans F2.out (fun _ h => h) (fun k _ h => by have := T1.out.lt; omega)).trans (Fr.alloc (X := fun _ => False) w2 _) (fun _ h => h) (fun _ _ h => h.elim)).trans (Fr.alloc (X := fun _ => False) _ _) (fun _ h => h) (fun _ _ h => h.elim)).trans (Fr.alloc (X := fun _ => False) _ _) (fun _ h => h) (fun _ _ h => h.elim)
        generalize ((w2.alloc (.cells #[.int .i32 h] 41)).alloc (.cells #[.int .i64 0] 3)).alloc (.cells #[.int .i64 0, .int .i64 0, .int .i64 ((i : Int) + 1), .slice (some ⟨w2.heap.size, 0, none⟩) 1 1, .int .i32 0, .int .i64 1, .int .u64 x, .bool true, .slice (some ⟨gd, 0, none⟩) m cdd, .slice (some ⟨w2.heap.size + 1, 0, none⟩) 1 1, .slice none 0 0, .slice none 0 0, .int .i64 0] 67) = W2 at T2 F3 ⊢
        have hkb := updN_same blk i (w2.heap.size + 1 + 1)
        generalize w2.heap.size + 1 + 1 = kb at T2 hkb ⊢
        generalize updN blk i kb = blk' at T2 hkb
        have HKB : Aside _ := hkb
        clear T1 F1 F2 hgw BY HLE HPX hkb hgd hcap c1 x1 b1
        have PW : Aside _ := T2.out.fr (Fr.alloc (X := fun _ => False) W2 (.cells #[.pointer (some ⟨kb, 0, none⟩)] 63)) (by simp)
        obtain ⟨D, R, d0, d1, d2, d3, d4, d5, d6⟩ := T2.out.rcd
        have c1 := R.at 1 (by omega) (a := 1) rfl d1
        clear D R d0 d1 d2 d3 d4 d5 d6
        have hW2 := T2.out.lt
        go_upto_region 9 with (at_builtin; refine wpList_append_own_at _ rfl (.tmp 40) (.tmp 42) 55 rfl (t + 1) 63 i6 _ 1 8 Ybaf.underlying55 hi6 hz60 hz61 hz62 rfl (by decide) _ _ _ rfl PW.out.ob ⟨W2.heap.size, 0, none⟩ 1 1 [.pointer (some ⟨kb, 0, none⟩)] rfl rfl (news1 W2 _ 63) (by intro u hu; simp at hu; subst hu; rfl) (by unfold maxLen; omega) (by omega) (by simp; omega) ?_; intro v5 w5 O5 G5 N5 A5; obtain ⟨g5, cp5, rfl, -, -⟩ := own_at O5 (fun e => absurd (N5.1 e).2 (by decide)); clear N5; have X5 : Fr (fun k => bv.ownBlock = some k) _ w5 := Fr.grown G5 (fun k hk => hk); have t5 : ¬ bv.ownBlock = some t := (fun e => by have := (T2.out.ob.lt t e).1; omega); obtain ⟨D, R, d0, d1, -⟩ := PW.out.rcd; have c1 := X5.cell (R.at 1 (by omega) (a := 1) rfl d1) t5; have f1 := X5.frozen (R.at 1 (by omega) (a := 1) rfl d1) t5 (R.nf 1 (by omega) (a := 1) rfl); clear D R d0 d1)
        have T3 : Aside (TP (w5.setCell ⟨t, 1, none⟩ (.slice (some ⟨g5, 0, none⟩) (i + 1) cp5)) t h (i + 1) i i (i + 1) sk ps (.slice (some ⟨g5, 0, none⟩) (i + 1) cp5) sv blk' (updN bi i w2.heap.size) (updN bd i gd) (updN bm i (w2.heap.size + 1)) (updN nn i m) (updN cd i cdd)) :=
          T2.out.addB (Fr.alloc (X := fun _ => False) W2 _) (by rw [HKB.out]; exact O5) G5 A5
        have F4 : Aside (Fr (fun k => t ≤ k) w (w5.setCell ⟨t, 1, none⟩ (.slice (some ⟨g5, 0, none⟩) (i + 1) cp5))) :=
          ((F3.out.trans (Fr.alloc (X := fun _ => False) W2 _) (fun _ h => h) (fun _ _ h => h.elim)).row (H := t + 1) G5 (fun k hk => (PW.out.ob.lt k hk).1) (fun k hk => by omega)).set' ⟨t, 1, none⟩ _ (Nat.le_refl _)
        generalize w5.setCell ⟨t, 1, none⟩ (.slice (some ⟨g5, 0, none⟩) (i + 1) cp5) = W3 at T3 F4 ⊢
        clear O5 G5 A5 X5 t5 c1 f1 hW2 PW T2 F3 HKB w5
        have PW : Aside _ := T3.out.fr (Fr.alloc (X := fun _ => False) W3 (.cells #[.int .i64 i] 3)) (by simp)
        obtain ⟨D, R, d0, d1, d2, d3, d4, d5, d6⟩ := T3.out.rcd
        have c2 := R.at 2 (by omega) (a := 2) rfl d2
        clear D R d0 d1 d2 d3 d4 d5 d6
        have hW3 := T3.out.lt
        go_upto_region 10 with (at_builtin; refine wpList_append_own_at _ rfl (.tmp 50) (.tmp 52) 45 rfl (t + 1) 3 i3 _ 1 8 Ybaf.underlying45 hi3 hz30 hz31 hz32 rfl (by decide) _ _ _ rfl PW.out.os ⟨W3.heap.size, 0, none⟩ 1 1 [.int .i64 i] rfl rfl (news1 W3 _ 3) (by intro u hu; simp at hu; subst hu; rfl) (by unfold maxLen; omega) (by omega) (by simp; omega) ?_; intro v6 w6 O6 G6 N6 A6; obtain ⟨g6, cp6, rfl, -, -⟩ := own_at O6 (fun e => absurd (N6.1 e).2 (by decide)); clear N6; have X6 : Fr (fun k => sv.ownBlock = some k) _ w6 := Fr.grown G6 (fun k hk => hk); have t6 : ¬ sv.ownBlock = some t := (fun e => by have := (T3.out.os.lt t e).1; omega); obtain ⟨D, R, d0, d1, d2, -⟩ := PW.out.rcd; have c2 := X6.cell (R.at 2 (by omega) (a := 2) rfl d2) t6; have f2 := X6.frozen (R.at 2 (by omega) (a := 2) rfl d2) t6 (R.nf 2 (by omega) (a := 2) rfl); clear D R d0 d1 d2)
        have T4 : Aside (TP (w6.setCell ⟨t, 2, none⟩ (.slice (some ⟨g6, 0, none⟩) (i + 1) cp6)) t h (i + 1) (i + 1) i (i + 1) sk ps (.slice (some ⟨g5, 0, none⟩) (i + 1) cp5) (.slice (some ⟨g6, 0, none⟩) (i + 1) cp6) blk' (updN bi i w2.heap.size) (updN bd i gd) (updN bm i (w2.heap.size + 1)) (updN nn i m) (updN cd i cdd)) :=
          T3.out.addS (Fr.alloc (X := fun _ => False) W3 _) O6 G6 A6
        have F5 : Aside (Fr (fun k => t ≤ k) w (w6.setCell ⟨t, 2, none⟩ (.slice (some ⟨g6, 0, none⟩) (i + 1) cp6))) :=
          ((F4.out.trans (Fr.alloc (X := fun _ => False) W3 _) (fun _ h => h) (fun _ _ h => h.elim)).row (H := t + 1) G6 (fun k hk => (PW.out.os.lt k hk).1) (fun k hk => by omega)).set' ⟨t, 2, none⟩ _ (Nat.le_refl _)
        generalize w6.setCell ⟨t, 2, none⟩ (.slice (some ⟨g6, 0, none⟩) (i + 1) cp6) = W4 at T4 F5 ⊢
        clear O6 G6 A6 X6 t6 c2 f2 hW3 PW T3 F4 w6
        obtain ⟨D, R, d0, d1, d2, d3, d4, d5, d6⟩ := T4.out.rcd
        have c3 := R.at 3 (by omega) (a := 3) rfl d3
        have f3 := R.nf 3 (by omega) (a := 3) rfl
        clear D R d0 d1 d2 d3 d4 d5 d6
        go_wp2_with (fail)
        go_roundg (n - (i + 1))
        case measure => omega
        case rel => exact ⟨i + 1, by go_num, by omega, Nat.le_refl _, ⟨_, _, _, _, _, _, _, _, T4.out.addN⟩, F5.out.set' ⟨t, 3, none⟩ _ (Nat.le_refl _)⟩
      · have e1 : ¬ (i : Int) < (n : Int) := by omega
        obtain rfl : i = n := by omega
        go_wp2_with fail
        go_meet
        case rel => exact ⟨TT, F1⟩
  case rest =>
    obtain ⟨TT, F1⟩ := hcut
    clear T0 F0
    go_wp2_with fail
    go_ret
    obtain ⟨bv, sv, blk, bi, bd, bm, nn, cd, T1⟩ := TT.out
    obtain ⟨d, e1, e2, e3, e4, e5, T2⟩ := T1.toTL n2 HH.out
    refine ⟨d, by rw [e1]; rfl, e2, e3, e4, e5, ?_, F1.out.mono (fun k hk h => by have := HT.out; omega)⟩
    rw [HT.out]; exact T2
end Go.Proofs.YbulkbyweFmt
