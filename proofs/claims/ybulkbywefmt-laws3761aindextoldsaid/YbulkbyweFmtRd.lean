import Derived.Test.YbulkbyweFmtFr
import Derived.Deep.LoopGhost
namespace Go.Proofs.YbulkbyweFmt
open Go.Shelf Go.RowKit Go.Lib Go.Proofs

set_option maxHeartbeats 400000 in
set_option maxRecDepth 100000 in
theorem uvarint34 (c ro b bd n cd pos v : Nat) (w : World) (hv : v < 128) (hpos : pos < n) (hn : n < 4294967296)
    (h0 : w.cell? ⟨c, ro, none⟩ = some (.pointer (some ⟨b, 0, none⟩))) (h2 : w.cell? ⟨c, ro + 2, none⟩ = some (.int .i64 pos)) (f2 : w.frozen? ⟨c, ro + 2, none⟩ = false)
    (h8 : w.cell? ⟨b, 8, none⟩ = some (.slice (some ⟨bd, 0, none⟩) n cd)) (hd : w.cell? ⟨bd, pos, none⟩ = some (.int .u8 v)) :
    Calls Ybaf.prog 34 #[.pointer (some ⟨c, ro, none⟩)] w fun e w' => e = .returned (.int .u64 v) ∧ ∃ q, w' = (w.drewN q).setCell ⟨c, ro + 2, none⟩ (.int .i64 ((pos + 1 : Nat) : Int)) := by
  have mixed := Ybaf.laysUv.mixed
  have hcon := fun q => uvAt_small bd n cd pos v (w.drewN q) hv hpos hn hd
  go_enter Ybaf.func34, Ybaf.ntmps34
  go_wp2_with fail
  go_quiet (exact Calls.quiet_of_same (hcon _))
  go_wp2
  go_ret
  exact ⟨rfl, _, by go_num⟩

/-- The block of an event: its record in block bd, its ids in bi, its marks in bm. -/
structure Blk (w : World) (b i h x bi bd bm n cd : Nat) : Prop where
  file : w.cell? ⟨b, 0, none⟩ = some (.int .i64 0)
  at_ : w.cell? ⟨b, 1, none⟩ = some (.int .i64 0)
  line : w.cell? ⟨b, 2, none⟩ = some (.int .i64 ((i + 1 : Nat) : Int))
  ids : w.cell? ⟨b, 3, none⟩ = some (.slice (some ⟨bi, 0, none⟩) 1 1)
  host : w.cell? ⟨b, 4, none⟩ = some (.int .i32 0)
  n_ : w.cell? ⟨b, 5, none⟩ = some (.int .i64 1)
  first : w.cell? ⟨b, 6, none⟩ = some (.int .u64 x)
  runs : w.cell? ⟨b, 7, none⟩ = some (.bool true)
  data : w.cell? ⟨b, 8, none⟩ = some (.slice (some ⟨bd, 0, none⟩) n cd)
  marks : w.cell? ⟨b, 9, none⟩ = some (.slice (some ⟨bm, 0, none⟩) 1 1)
  id0 : w.cell? ⟨bi, 0, none⟩ = some (.int .i32 h)
  mk0 : w.cell? ⟨bm, 0, none⟩ = some (.int .i64 0)
  byt : Bytes w bd x
  len : (dataOf x).length = n
  cap : n ≤ cd
  rng : x < 18446744073709551616
  obj : ∃ cs : Array Value, w.heap[b]? = some (.cells cs 67 (0, 0))

theorem Blk.fr {X : Nat → Prop} {w w' : World} {b i h x bi bd bm n cd : Nat} (k : Blk w b i h x bi bd bm n cd) (f : Fr X w w') (h1 : ¬ X b) (h2 : ¬ X bi) (h3 : ¬ X bd) (h4 : ¬ X bm) : Blk w' b i h x bi bd bm n cd where
  file := f.cell k.file h1
  at_ := f.cell k.at_ h1
  line := f.cell k.line h1
  ids := f.cell k.ids h1
  host := f.cell k.host h1
  n_ := f.cell k.n_ h1
  first := f.cell k.first h1
  runs := f.cell k.runs h1
  data := f.cell k.data h1
  marks := f.cell k.marks h1
  id0 := f.cell k.id0 h2
  mk0 := f.cell k.mk0 h4
  byt := fun j hj => f.cell (k.byt j hj) h3
  len := k.len
  cap := k.cap
  rng := k.rng
  obj := by
    obtain ⟨cs, hc⟩ := k.obj
    exact ⟨cs, by rw [f.block b (Array.getElem?_eq_some_iff.1 hc).1 h1]; exact hc⟩

theorem Blk.bounds {w : World} {b i h x bi bd bm n cd : Nat} (k : Blk w b i h x bi bd bm n cd) : 6 ≤ n ∧ n ≤ 15 := by
  have := dataOf_len x
  have := k.len
  have := Lib.uvarint_length64 k.rng
  have := uvarint_pos x
  omega

/-- The bytes behind the first five. -/
theorem Blk.byte {w : World} {b i h x bi bd bm n cd : Nat} (k : Blk w b i h x bi bd bm n cd) (p : Nat) (h5 : 5 ≤ p) (hp : p < n) : ∃ v : Nat, w.cell? ⟨bd, p, none⟩ = some (.int .u8 v) ∧ (128 ≤ v ↔ p + 1 < n) := by
  have hl := dataOf_len x
  have hk := k.len
  obtain ⟨j, rfl⟩ : ∃ j, p = 5 + j := ⟨p - 5, by omega⟩
  refine ⟨_, k.byt.tail j (by omega), ⟨fun hv => ?_, fun hv => uv_head x j (by omega)⟩⟩
  by_cases c : j + 1 = (Lib.uvarint x).length
  · have := uv_last x j c; omega
  · omega

/-- Where pass stands: ahead of the host's number, of the place's, behind it. -/
def PassAt (n k p : Nat) : Prop := (k = 0 ∧ p = 4) ∨ (k = 1 ∧ 5 ≤ p ∧ p < n) ∨ (k = 2 ∧ p = n)

theorem Rec.at {w : World} {c o n : Nat} {B : Nat → Value} (h : Rec w c o n B) (j : Nat) (hj : j < n) {a : Nat} (ha : o + j = a) {v : Value} (hv : B j = v) : w.cell? ⟨c, a, none⟩ = some v := by
  subst ha hv; exact h.cell j hj

theorem Rec.nf {w : World} {c o n : Nat} {B : Nat → Value} (h : Rec w c o n B) (j : Nat) (hj : j < n) {a : Nat} (ha : o + j = a) : w.frozen? ⟨c, a, none⟩ = false := by
  subst ha; exact h.free j hj

theorem updB_upd (B : Nat → Value) (p : Nat) (u v : Value) : updB (updB B p u) p v = updB B p v := by
  funext o; unfold updB; split <;> rfl

set_option maxHeartbeats 1000000 in
set_option maxRecDepth 100000 in
theorem pass33 (c ro b i h x bi bd bm n cd : Nat) (B : Nat → Value) (w : World) (R : Rec w c ro 14 B) (K : Blk w b i h x bi bd bm n cd) (hb : c ≠ b) (hi : c ≠ bi) (hd : c ≠ bd) (hm : c ≠ bm)
    (h0 : B 0 = .pointer (some ⟨b, 0, none⟩)) (h2 : B 2 = .int .i64 4) :
    Calls Ybaf.prog 33 #[.pointer (some ⟨c, ro, none⟩), .int .i64 2] w fun e w' => e = .returned (.tuple #[]) ∧ Rec w' c ro 14 (updB B 2 (.int .i64 n)) ∧ Fr (fun k => k = c) w w' := by
  have mixed := Ybaf.laysUv.mixed
  have NB := K.bounds
  have R0 : Aside (Rec w c ro 14 (updB B 2 (.int .i64 ((4 : Nat) : Int)))) := by
    have : updB B 2 (.int .i64 ((4 : Nat) : Int)) = B := by funext o; unfold updB; split <;> simp_all
    rw [this]; exact R
  have K0 : Aside _ := K
  clear R K
  go_enter Ybaf.func33, Ybaf.ntmps33
  go_wp2
  go_loopg [5] 4 (fun kx s5 wr => ∃ (k p : Nat), s5 = .int .i64 k ∧ k ≤ 2 ∧ 2 - k ≤ kx ∧ Aside (PassAt n k p) ∧ (k = 1 → p = 5) ∧ Aside (Rec wr c ro 14 (updB B 2 (.int .i64 p))) ∧ Aside (Fr (fun k => k = c) w wr))
  case atStart => exact ⟨0, 4, rfl, by omega, by omega, Or.inl ⟨rfl, rfl⟩, by omega, R0, Fr.refl _ _⟩
  case round =>
    clear R0
    obtain ⟨k, p, rfl, hk, hkx, PA, hp1, R1, F1⟩ := hrel
    by_cases hlt : k < 2
    · have hltz : (k : Int) < 2 := by omega
      go_wp2
      go_loopg [] n (fun kx wr => ∃ (p : Nat), Aside (PassAt n k p) ∧ p ≤ n ∧ n - p ≤ kx ∧ Aside (Rec wr c ro 14 (updB B 2 (.int .i64 p))) ∧ Aside (Fr (fun k => k = c) w wr))
      case atStart => exact ⟨p, PA, by have := PA.out; unfold PassAt at this; omega, by omega, R1, F1⟩
      case round =>
        clear R1 F1
        obtain ⟨q, PQ, hqn, hkq, R2, F2⟩ := hrel
        have K1 := K0.out.fr F2.out (by omega) (by omega) (by omega) (by omega)
        have c0 := R2.out.at 0 (by omega) (a := ro) (by omega) (v := .pointer (some ⟨b, 0, none⟩)) (by rw [updB_other _ _ _ _ (by omega)]; exact h0)
        have c2 := R2.out.at 2 (by omega) (a := ro + 2) rfl (v := .int .i64 q) (updB_same _ _ _)
        have f2 := R2.out.nf 2 (by omega) (a := ro + 2) rfl
        have c8 := K1.data
        have PQ1 := PQ.out
        unfold PassAt at PQ1
        have rq : IntKind.i64.wrap ((q : Int) + 1) = ((q + 1 : Nat) : Int) := by rw [IntKind.wrap_i64]; omega
        have qn : (q : Int) < (n : Int) := by omega
        have RN : ∀ z, Aside (Rec ((wr.drewN z).setCell ⟨c, ro + 2, none⟩ (.int .i64 ((q + 1 : Nat) : Int))) c ro 14 (updB B 2 (.int .i64 ((q + 1 : Nat) : Int)))) := fun z => by
          have := (R2.out.fr (Fr.drewN (X := fun _ => False) wr z) (by simp)).set 2 (by omega) (.int .i64 ((q + 1 : Nat) : Int))
          rw [updB_upd] at this; exact this
        have FN : ∀ z, Aside (Fr (fun k => k = c) w ((wr.drewN z).setCell ⟨c, ro + 2, none⟩ (.int .i64 ((q + 1 : Nat) : Int)))) := fun z =>
          (F2.out.trans (Fr.drewN (X := fun k => k = c) wr z) (fun _ h => h) (fun _ _ h => h)).trans (Fr.setCell (X := fun k => k = c) _ ⟨c, ro + 2, none⟩ _ rfl) (fun _ h => h) (fun _ _ h => h)
        by_cases big : k = 1 ∧ q + 1 < n
        · obtain ⟨v, hv, hv2⟩ := K1.byte q (by omega) (by omega)
          have hvz : (128 : Int) ≤ (v : Int) := by have := hv2.2 big.2; omega
          have PN : Aside (PassAt n k (q + 1)) := by show PassAt _ _ _; unfold PassAt; omega
          clear hv2 K1 PQ1 PQ
          go_wp2_with fail
          go_quiet (fail)
          go_wp2
          go_roundg (n - (q + 1))
          case measure => omega
          case rel => exact ⟨q + 1, PN, by omega, Nat.le_refl _, RN _, FN _⟩
        · obtain ⟨v, hv, hv2⟩ : ∃ v : Nat, wr.cell? ⟨bd, q, none⟩ = some (.int .u8 v) ∧ v < 128 := by
            rcases PQ1 with ⟨_, rfl⟩ | ⟨_, _, _⟩ | ⟨_, rfl⟩
            · exact ⟨0, K1.byt.head.2.2.2.2, by omega⟩
            · obtain ⟨v, h1, h2⟩ := K1.byte q (by omega) (by omega)
              exact ⟨v, h1, by omega⟩
            · omega
          have hvz : ¬ (128 : Int) ≤ (v : Int) := by omega
          have PN : Aside (PassAt n (k + 1) (q + 1)) := by show PassAt _ _ _; unfold PassAt; omega
          have hq5 : k + 1 = 1 → q + 1 = 5 := by omega
          clear hv2 K1 PQ1 PQ
          go_wp2_with fail
          go_quiet (fail)
          go_wp2
          go_roundg (2 - (k + 1))
          case measure => omega
          case rel => exact ⟨k + 1, q + 1, by go_num, by omega, Nat.le_refl _, PN, hq5, RN _, FN _⟩
    · have hltz : ¬ (k : Int) < 2 := by omega
      obtain rfl : k = 2 := by omega
      obtain rfl : p = n := by have := PA.out; unfold PassAt at this; omega
      go_wp2
      go_end0
      exact ⟨rfl, R1.out, F1.out⟩
end Go.Proofs.YbulkbyweFmt
