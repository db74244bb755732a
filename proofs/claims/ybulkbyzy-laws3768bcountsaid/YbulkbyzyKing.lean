import Derived.Test.YbulkbyzyLaws
namespace Go.Proofs.Ybulkbyzy
open Go.RowKit

/-- What 'king' holds behind the first i squares: the square of the last king of side c, and how many. -/
def kst (bd : List (Int × Int)) (c : Int) : Nat → Int × Int × Int
  | 0 => (0, 0, 0)
  | i + 1 => if bd.getD i (0, 0) = (8, c) then (((i % 9 : Nat) : Int) + 1, ((i / 9 : Nat) : Int) + 1, (kst bd c i).2.2 + 1) else kst bd c i

theorem kst_bd (bd : List (Int × Int)) (c : Int) (i : Nat) : 0 ≤ (kst bd c i).2.2 ∧ (kst bd c i).2.2 ≤ i := by
  induction i with
  | zero => exact ⟨Int.le_refl _, Int.le_refl _⟩
  | succ i ih =>
    unfold kst
    split
    · show 0 ≤ (kst bd c i).2.2 + 1 ∧ (kst bd c i).2.2 + 1 ≤ ((i + 1 : Nat) : Int); omega
    · omega

/-- The square's variable, and all below it. -/
structure SqAt (S : Nat) (w : World) (x y : Int) (wr : World) : Prop where
  g0 : wr.cell? ⟨S, 0, none⟩ = some (.int .i64 x)
  g1 : wr.cell? ⟨S, 1, none⟩ = some (.int .i64 y)
  f0 : wr.frozen? ⟨S, 0, none⟩ = false
  f1 : wr.frozen? ⟨S, 1, none⟩ = false
  hs : S < wr.heap.size
  bel : Below S w wr

theorem SqAt.alloc {S : Nat} {w wr : World} {x y : Int} (h : SqAt S w x y wr) (O : Obj) : SqAt S w x y (wr.alloc O) :=
  ⟨(World.cell?_alloc_lt _ _ _ h.hs).trans h.g0, (World.cell?_alloc_lt _ _ _ h.hs).trans h.g1, (World.frozen?_of_block (Below.heap_alloc _ _ _ h.hs)).trans h.f0,
    (World.frozen?_of_block (Below.heap_alloc _ _ _ h.hs)).trans h.f1, by have := h.hs; simp; omega, h.bel.alloc (Nat.le_of_lt h.hs) _⟩

theorem SqAt.hit {S : Nat} {w wr : World} {x y : Int} (h : SqAt S w x y wr) (x' y' : Int) : SqAt S w x' y' ((wr.setCell ⟨S, 0, none⟩ (.int .i64 x')).setCell ⟨S, 1, none⟩ (.int .i64 y')) :=
  ⟨(World.cell?_setCell_other _ _ _ _ (by simp)).trans (World.cell?_setCell_same _ _ _ h.g0),
    World.cell?_setCell_same _ _ _ ((World.cell?_setCell_other _ _ _ _ (by simp)).trans h.g1),
    by rw [World.frozen?_setCell, World.frozen?_setCell]; exact h.f0, by rw [World.frozen?_setCell, World.frozen?_setCell]; exact h.f1, by have := h.hs; simpa using this,
    (h.bel.setCell (Nat.le_refl _) _).setCell (Nat.le_refl _) _⟩

set_option maxHeartbeats 2000000 in
set_option maxRecDepth 100000 in
theorem king_any (b : Nat) (c : Int) (bd : List (Int × Int)) (w : World) (hl : bd.length = 81) (hb : b < w.heap.size)
   (h : ∀ j v, (enc bd)[j]? = some v → w.cell? ⟨b, j, none⟩ = some v) :
    Calls Yba.prog 6 #[.pointer (some ⟨b, 0, none⟩), .int .i8 c] w fun e w' =>
      e = .returned (.tuple #[.agg #[.int .i64 (kst bd c 81).1, .int .i64 (kst bd c 81).2.1], .int .i64 (kst bd c 81).2.2]) ∧ Below w.heap.size w w' := by
  have C : Hid (∀ j v, (enc bd)[j]? = some v → w.cell? ⟨b, j, none⟩ = some v) := h
  have HL : Hid (bd.length = 81) := hl
  clear h hl
  go_enter Yba.func6, Yba.ntmps6
  go_wp2_with (refine wpList_load_run rfl 29 (.tmp 12) rfl ⟨b, 0, none⟩ rfl (.agg (enc bd).toArray) ?hl ?_)
  case hl => exact load_board _ b bd HL.out (fun j v hj => (World.cell?_alloc_lt _ _ _ hb).trans (C.out j v hj))
  obtain ⟨ws, hws⟩ : ∃ ws, w.alloc (Obj.cells #[Value.int IntKind.i64 0, Value.int IntKind.i64 0] 36) = ws := ⟨_, rfl⟩
  obtain ⟨S, hS⟩ : ∃ S, w.heap.size = S := ⟨_, rfl⟩
  have A0 : ws.cell? ⟨S, 0, none⟩ = some (.int .i64 0) := by rw [← hws, ← hS]; simp
  have A1 : ws.cell? ⟨S, 1, none⟩ = some (.int .i64 0) := by rw [← hws, ← hS]; simp
  have A2 : ws.frozen? ⟨S, 0, none⟩ = false := by rw [← hws, ← hS]; simp
  have A3 : ws.frozen? ⟨S, 1, none⟩ = false := by rw [← hws, ← hS]; simp
  have A4 : S < ws.heap.size := by rw [← hws, ← hS]; simp
  have A5 : Below S w ws := by rw [← hws, ← hS]; exact (Below.refl _ _).alloc (Nat.le_refl _) _
  rw [hws, hS]
  have HS : Hid (w.heap.size = S) := hS
  clear hws hS C
  go_loopw [5, 6, 7, 8, 9, 14] (fun t5 _ _ _ _ t14 wr => ∃ (r : Nat) (x y n : Int), r ≤ 9 ∧ t14 = .int .i64 r ∧ t5 = .int .i64 n ∧ Hid (kst bd c (9 * r) = (x, y, n)) ∧ 0 ≤ n ∧ n ≤ 81 ∧
      SqAt S w x y wr)
    (fun _ _ _ _ _ t14 _ => 9 - (intOf t14).toNat)
  case atStart => exact ⟨0, 0, 0, 0, Nat.zero_le _, rfl, rfl, rfl, Int.le_refl _, by omega, ⟨A0, A1, A2, A3, A4, A5⟩⟩
  case round =>
    clear A0 A1 A2 A3 A4 A5
    obtain ⟨r, x, y, n, hr, rfl, rfl, HK, hn0, hn1, SQ⟩ := hrel
    have g0 := SQ.g0
    have g1 := SQ.g1
    have f0 := SQ.f0
    have f1 := SQ.f1
    have hs := SQ.hs
    by_cases hlt : r < 9
    · have hlti : (r : Int) < 9 := by omega
      have hrl : ((bd.drop (9 * r)).take 9).length = 9 := by have := HL.out; simp; omega
      have HR : Hid (((bd.drop (9 * r)).take 9).length = 9) := hrl
      clear hrl
      have IX := index_row wr bd r hlt
      have HROW : Hid (∀ f, f < 9 → ((bd.drop (9 * r)).take 9).getD f (0, 0) = bd.getD (9 * r + f) (0, 0)) := by
        intro f hf
        simp [List.getD, hf]
      generalize (bd.drop (9 * r)).take 9 = row at *
      go_wp2_with (first
        | (refine wpList_index_run rfl 29 (.tmp 13) (.tmp 14) rfl _ _ _ rfl rfl IX ?_)
        | (refine wpList_store_run rfl 28 (.tmp 7) (.tmp 17) rfl ⟨wr.heap.size, 0, none⟩ _ _ rfl rfl (store_row wr _ row HR.out rfl) ?_)
        | (refine wpList_load_run rfl 28 (.tmp 7) rfl ⟨wr.heap.size, 0, none⟩ rfl (.agg (enc row).toArray) ?hl2 ?_))
      case hl2 => exact run_loadVar_row _ wr.heap.size 28 28 (enc row).toArray (0, 0) _ (heap_alloc_new _ _) Yba.underlying28 rfl (by rw [info28]; simp [enc_length, HR.out])
      obtain ⟨wo, rfl⟩ : ∃ wo : World, wo = wr := ⟨_, rfl⟩
      obtain ⟨wi, hwi⟩ : ∃ wi, wo.alloc (Obj.cells (enc row).toArray 28) = wi := ⟨_, rfl⟩
      have SQi : SqAt S w x y wi := by rw [← hwi]; exact SQ.alloc _
      rw [hwi]
      clear hwi g0 g1 f0 f1 SQ IX
      go_loopw [5, 8, 9, 19] (fun t5 _ _ t19 wr => ∃ (f : Nat) (x y n : Int), f ≤ 9 ∧ t19 = .int .i64 f ∧ t5 = .int .i64 n ∧ Hid (kst bd c (9 * r + f) = (x, y, n)) ∧ 0 ≤ n ∧ n ≤ 9 * (r : Int) + f ∧
          SqAt S w x y wr)
        (fun _ _ _ t19 _ => 9 - (intOf t19).toNat)
      case atStart => exact ⟨0, x, y, n, Nat.zero_le _, rfl, rfl, HK, hn0, by have := kst_bd bd c (9 * r); rw [HK.out] at this; simp at this ⊢; omega, SQi⟩
      case round =>
        clear SQi HK hn0 hn1 hs
        obtain ⟨f, x, y, n, hf, rfl, rfl, HK, hn0, hn1, SQ⟩ := hrel
        have g0 := SQ.g0
        have g1 := SQ.g1
        have f0 := SQ.f0
        have f1 := SQ.f1
        have hs := SQ.hs
        by_cases hlf : f < 9
        · have hlfi : (f : Int) < 9 := by omega
          have IX := index_piece wr row f hlf HR.out
          have HP := HROW.out f hlf
          have KS : Hid (∀ k' c', bd.getD (9 * r + f) (0, 0) = (k', c') → ¬ (k' = 8 ∧ c' = c) → kst bd c (9 * r + (f + 1)) = (x, y, n)) := by
            intro k' c' h1 h2
            rw [← Nat.add_assoc, kst, h1, if_neg (fun e => h2 (by simpa using e)), HK.out]
          have KH : Hid (∀ k' c', bd.getD (9 * r + f) (0, 0) = (k', c') → k' = 8 → c' = c → kst bd c (9 * r + (f + 1)) = ((f : Int) + 1, (r : Int) + 1, n + 1)) := by
            intro k' c' h1 h2 h3
            subst h2; subst h3
            rw [← Nat.add_assoc, kst, h1, if_pos rfl, HK.out, show (9 * r + f) % 9 = f from by omega, show (9 * r + f) / 9 = r from by omega]
          obtain ⟨k', c', hp⟩ : ∃ k' c', bd.getD (9 * r + f) (0, 0) = (k', c') := ⟨_, _, rfl⟩
          rw [HP, hp] at IX
          have HPP : Hid (bd.getD (9 * r + f) (0, 0) = (k', c')) := hp
          clear HP hp
          by_cases e1 : k' = 8
          · by_cases e2 : c' = c
            · have b1 : (k' == 8) = true := by simp [e1]
              have b2 : (c' == c) = true := by simp [e2]
              have KH2 : Hid (kst bd c (9 * r + (f + 1)) = ((f : Int) + 1, (r : Int) + 1, n + 1)) := KH.out k' c' HPP.out e1 e2
              clear e1 e2 KH KS
              go_wp2_with (refine wpList_index_run rfl 28 (.tmp 18) (.tmp 19) rfl _ _ _ rfl rfl IX ?_)
              go_roundw
              case rel => exact ⟨f + 1, (f : Int) + 1, (r : Int) + 1, n + 1, by omega, by go_num, rfl, KH2, by omega, by omega, (SQ.hit _ _).alloc _⟩
              case measure => simp [intOf]; omega
            · have b1 : (k' == 8) = true := by simp [e1]
              have b2 : (c' == c) = false := by simp [e2]
              have KH2 : Hid (kst bd c (9 * r + (f + 1)) = (x, y, n)) := KS.out k' c' HPP.out (fun h => e2 h.2)
              clear e1 e2 KH KS
              go_wp2_with (refine wpList_index_run rfl 28 (.tmp 18) (.tmp 19) rfl _ _ _ rfl rfl IX ?_)
              go_roundw
              case rel => exact ⟨f + 1, x, y, n, by omega, by go_num, rfl, KH2, by omega, by omega, SQ.alloc _⟩
              case measure => simp [intOf]; omega
          · have b1 : (k' == 8) = false := by simp [e1]
            have KH2 : Hid (kst bd c (9 * r + (f + 1)) = (x, y, n)) := KS.out k' c' HPP.out (fun h => e1 h.1)
            clear e1 KH KS
            go_wp2_with (refine wpList_index_run rfl 28 (.tmp 18) (.tmp 19) rfl _ _ _ rfl rfl IX ?_)
            go_roundw
            case rel => exact ⟨f + 1, x, y, n, by omega, by go_num, rfl, KH2, by omega, by omega, SQ.alloc _⟩
            case measure => simp [intOf]; omega
        · obtain rfl : f = 9 := by omega
          go_wp2
          go_roundw
          case rel => exact ⟨r + 1, x, y, n, by omega, by go_num, rfl, HK, hn0, by omega, SQ⟩
          case measure => simp [intOf]; omega
    · obtain rfl : r = 9 := by omega
      go_wp2
      have SQ2 := SQ.hit x y
      obtain ⟨wz, hwz⟩ : ∃ wz, (wr.setCell ⟨S, 0, none⟩ (.int .i64 x)).setCell ⟨S, 1, none⟩ (.int .i64 y) = wz := ⟨_, rfl⟩
      rw [hwz] at SQ2 ⊢
      have q0 := SQ2.g0
      have q1 := SQ2.g1
      refine bodyPost_ret (v := .tuple #[.agg #[.int .i64 x, .int .i64 y], .int .i64 n]) (by simp [results, Yba.results6, go_sem, q0, q1]) rfl ⟨?_, ?_⟩
      · rw [show kst bd c 81 = (x, y, n) from HK.out]
      · rw [HS.out]; exact SQ2.bel
end Go.Proofs.Ybulkbyzy
