import Derived.Test.YbulkbywsReads
namespace Go.Proofs.Ybulkbyws
open Go.RowKit

theorem frozen_new (w : World) (c : Array Value) (t : TypeId) (i : Nat) : (w.alloc (.cells c t)).frozen? ⟨w.heap.size, i, none⟩ = false := by simp

def wantN : Value → Nat | .bool true => 1 | _ => 0

theorem idx_run (s : ByteArray) (i : Int) (j : Nat) (hj : j < s.size) (e : i = (j : Int)) (W : World) : (Instr.index 9 (.string s) (.int .i64 i)).run Yba.prog W = .ok (.int .u8 ((s[j]).toNat : Int)) W := by
  subst e
  rw [run_index_string W 9 s .i64 (j : Int) Yba.underlying9, dif_pos ⟨by omega, by omega⟩]
  rfl

def AgreeTo (text wd : ByteArray) (A k : Nat) (b : Bool) : Prop :=
  (b = true ∧ ∀ j, j < k → ∀ (h2 : j < wd.size) (h3 : A + j < text.size), text[A + j] = wd[j]) ∨ (b = false ∧ ∃ j, ∃ h2 : j < wd.size, ∃ h3 : A + j < text.size, text[A + j] ≠ wd[j])

theorem agree_zero (text wd : ByteArray) (A : Nat) : AgreeTo text wd A 0 true := .inl ⟨rfl, fun j h => by omega⟩
theorem agree_next {text wd : ByteArray} {A k : Nat} (h : AgreeTo text wd A k true) (h2 : k < wd.size) (h3 : A + k < text.size) (e : text[A + k] = wd[k]) : AgreeTo text wd A (k + 1) true := by
  rcases h with ⟨_, h⟩ | ⟨h, _⟩
  · refine .inl ⟨rfl, fun j hj g2 g3 => ?_⟩
    by_cases c : j = k
    · subst c; exact e
    · exact h j (by omega) g2 g3
  · cases h
theorem agree_miss {text wd : ByteArray} {A k m : Nat} (h2 : k < wd.size) (h3 : A + k < text.size) (e : ¬ text[A + k] = wd[k]) : AgreeTo text wd A m false := .inr ⟨rfl, k, h2, h3, e⟩

theorem agree_iff (text wd : ByteArray) (A : Nat) (hA : A ≤ text.size) : Lib.hasPrefix (text.extract A text.size).data.toList wd.data.toList = true ↔ A + wd.size ≤ text.size ∧ ∀ j, ∀ (h2 : j < wd.size) (h3 : A + j < text.size), text[A + j] = wd[j] := by
  have hl : (text.data.toList.drop A).take (text.size - A) = text.data.toList.drop A := List.take_of_length_le (by rw [List.length_drop, ← Lib.size_eq]; exact Nat.le_refl _)
  rw [Lib.extract_data, hl]
  unfold Lib.hasPrefix
  rw [List.isPrefixOf_iff_prefix, List.prefix_iff_getElem]
  constructor
  · rintro ⟨hle, h⟩
    rw [List.length_drop, ← Lib.size_eq, ← Lib.size_eq] at hle
    refine ⟨by omega, fun j h2 h3 => ?_⟩
    have := h j (by rw [← Lib.size_eq]; exact h2)
    rw [List.getElem_drop] at this
    exact this.symm
  · rintro ⟨hle, h⟩
    refine ⟨by rw [List.length_drop, ← Lib.size_eq, ← Lib.size_eq]; omega, fun j h2 => ?_⟩
    rw [← Lib.size_eq] at h2
    rw [List.getElem_drop]
    exact (h j h2 (by omega)).symm

theorem agree_yes {text wd : ByteArray} {A : Nat} (hA : A + wd.size ≤ text.size) (h : AgreeTo text wd A wd.size true) : Lib.hasPrefix (text.extract A text.size).data.toList wd.data.toList = true := by
  rcases h with ⟨_, h⟩ | ⟨h, _⟩
  · exact (agree_iff text wd A (by omega)).2 ⟨hA, fun j h2 h3 => h j h2 h2 h3⟩
  · cases h
theorem agree_no {text wd : ByteArray} {A k : Nat} (hA : A + wd.size ≤ text.size) (h : AgreeTo text wd A k false) : Lib.hasPrefix (text.extract A text.size).data.toList wd.data.toList = false := by
  rcases h with ⟨h, _⟩ | ⟨_, j, h2, h3, h⟩
  · cases h
  · rw [Bool.eq_false_iff]
    intro hp
    exact h (((agree_iff text wd A (by omega)).1 hp).2 j h2 h3)
theorem agree_short {text wd : ByteArray} {A : Nat} (hA : A ≤ text.size) (h : ¬ A + wd.size ≤ text.size) : Lib.hasPrefix (text.extract A text.size).data.toList wd.data.toList = false := by
  rw [Bool.eq_false_iff]
  intro hp
  exact h ((agree_iff text wd A hA).1 hp).1

set_option maxHeartbeats 2000000 in
set_option maxRecDepth 100000 in
theorem agree_walk (text raw : ByteArray) (at' a : Int) (w : World) (p0 : 0 ≤ at') (p1 : at' ≤ 18446744073709551615) (h0 : 0 ≤ a) (h1 : a ≤ 255) (ht : text.size ≤ 1048576) (hr : raw.size ≤ 1048576) :
    Calls Yba.prog 3 #[.string text, .int .u64 at', .int .u8 a, .string raw] w fun e w' => e = .returned (.bool true) ∧ Grown w w' := by
  have d1 : decide ((1048576 : Int) < (text.size : Int)) = false := decide_eq_false (by omega)
  have d3 : decide ((1048576 : Int) < (raw.size : Int)) = false := decide_eq_false (by omega)
  go_enter Yba.func3, Yba.ntmps3
  go_wp2_with fail
  refine (word_any a raw _ h0 h1 hr).mono ?_
  rintro e w1 ⟨wd, hwd, rfl, rfl⟩
  obtain ⟨A, eA, hA⟩ : ∃ A : Nat, at' % ((text.size : Int) + 1) = (A : Int) ∧ A ≤ text.size := by
    have b1 := Int.emod_nonneg at' (show (text.size : Int) + 1 ≠ 0 by omega)
    have b2 := Int.emod_lt_of_pos at' (show 0 < (text.size : Int) + 1 by omega)
    exact ⟨(at' % ((text.size : Int) + 1)).toNat, by omega, by omega⟩
  by_cases hP : A + wd.size ≤ text.size
  · have dP : decide ((A : Int) + (wd.size : Int) ≤ (text.size : Int)) = true := decide_eq_true (by omega)
    go_wp2
    go_loopw [11, 12] (fun want i wr => ∃ (k q : Nat) (b : Bool), k ≤ wd.size ∧ i = .int .i64 k ∧ want = .bool b ∧ wr = w1.drewN q ∧ AgreeTo text wd A k b)
      (fun want i _ => wantN want + (wd.size - (intOf i).toNat))
    case atStart => exact ⟨0, 0, true, Nat.zero_le _, rfl, rfl, rfl, agree_zero _ _ _⟩
    case round =>
      obtain ⟨k, q, b, hk, rfl, rfl, rfl, HT⟩ := hrel
      cases b with
      | false =>
        have HP : Hid (Lib.hasPrefix (text.extract A text.size).data.toList wd.data.toList = false) := agree_no hP HT
        go_wp2_with fail
        obtain ⟨wa, hwa⟩ : ∃ wa, World.alloc (w1.drewN q) (Obj.cells #[Value.string text, .int .i64 A, .slice none 0 0, .int .i64 7, .int .i64 3, .int .i64 5, .bool false] 27) = wa := ⟨_, rfl⟩
        have k0 : wa.cell? ⟨w1.heap.size, 0, none⟩ = some (.string text) := by rw [← hwa]; exact World.cell?_alloc_new _ _ _ _
        have k1 : wa.cell? ⟨w1.heap.size, 1, none⟩ = some (.int .i64 A) := by rw [← hwa]; exact World.cell?_alloc_new _ _ _ _
        have k2 : wa.cell? ⟨w1.heap.size, 2, none⟩ = some (.slice none 0 0) := by rw [← hwa]; exact World.cell?_alloc_new _ _ _ _
        have k3 : wa.cell? ⟨w1.heap.size, 3, none⟩ = some (.int .i64 7) := by rw [← hwa]; exact World.cell?_alloc_new _ _ _ _
        have k4 : wa.cell? ⟨w1.heap.size, 4, none⟩ = some (.int .i64 3) := by rw [← hwa]; exact World.cell?_alloc_new _ _ _ _
        have k5 : wa.cell? ⟨w1.heap.size, 5, none⟩ = some (.int .i64 5) := by rw [← hwa]; exact World.cell?_alloc_new _ _ _ _
        have k6 : wa.cell? ⟨w1.heap.size, 6, none⟩ = some (.bool false) := by rw [← hwa]; exact World.cell?_alloc_new _ _ _ _
        have kf : wa.frozen? ⟨w1.heap.size, 1, none⟩ = false := by rw [← hwa]; exact frozen_new _ _ _ _
        have gr : Grown w1 wa := by rw [← hwa]; exact Grown.alloc (grown_drewN (Grown.refl _) q) _ _
        rw [hwa]
        clear hwa
        refine (lit_no _ A text wd wa hA k0 k1 HP.out).mono ?_
        rintro e w2 ⟨rfl, q2, rfl⟩
        go_wp2_with fail
        refine (rest_any _ text (wa.drewN q2) k0 k2 k3 k4 k5 k6).mono ?_
        rintro e w3 ⟨rfl, rfl⟩
        go_wp2
        go_ret
        exact ⟨rfl, grown_drewN gr q2⟩
      | true =>
        by_cases hlt : k < wd.size
        · have hlti : (k : Int) < (wd.size : Int) := by omega
          have hlt2 : A + k < text.size := by omega
          have hlt3 : (A : Int) + (k : Int) < (text.size : Int) := by omega
          have ix1 := idx_run text ((A : Int) + (k : Int)) (A + k) hlt2 (by omega)
          have ix2 := idx_run wd (k : Int) k hlt rfl
          have HE : Hid (text[A + k] = wd[k] ↔ ((text[A + k]).toNat : Int) = ((wd[k]).toNat : Int)) := by
            constructor
            · intro h; rw [h]
            · intro h; exact UInt8.toNat_inj.1 (by omega)
          obtain ⟨x, hx⟩ : ∃ x : Int, ((text[A + k]).toNat : Int) = x := ⟨_, rfl⟩
          obtain ⟨y, hy⟩ : ∃ y : Int, ((wd[k]).toNat : Int) = y := ⟨_, rfl⟩
          rw [hx] at ix1
          rw [hy] at ix2
          have HE2 : Hid (text[A + k] = wd[k] ↔ x = y) := by have h := HE.out; rw [hx, hy] at h; exact h
          clear hx hy HE
          by_cases hxy : x = y
          · have hb : (x != y) = false := by simp [hxy]
            have HM : Hid (text[A + k] = wd[k]) := HE2.out.2 hxy
            clear hxy HE2
            go_wp2
            go_quiet (fail)
            go_wp2
            go_roundw
            case rel => exact ⟨k + 1, _, true, by omega, by go_num, rfl, rfl, agree_next HT hlt hlt2 HM.out⟩
            case measure => simp [intOf, wantN]; omega
          · have hb : (x != y) = true := by simp [hxy]
            have HM : Hid (¬ text[A + k] = wd[k]) := fun h => hxy (HE2.out.1 h)
            clear hxy HE2
            go_wp2
            go_quiet (fail)
            go_wp2
            go_roundw
            case rel => exact ⟨k + 1, _, false, by omega, by go_num, rfl, rfl, agree_miss hlt hlt2 HM.out⟩
            case measure => simp [intOf, wantN]; omega
        · obtain rfl : k = wd.size := by omega
          have HP : Hid (Lib.hasPrefix (text.extract A text.size).data.toList wd.data.toList = true) := agree_yes hP HT
          clear HT
          go_wp2_with fail
          obtain ⟨wa, hwa⟩ : ∃ wa, World.alloc (w1.drewN q) (Obj.cells #[Value.string text, .int .i64 A, .slice none 0 0, .int .i64 7, .int .i64 3, .int .i64 5, .bool false] 27) = wa := ⟨_, rfl⟩
          have k0 : wa.cell? ⟨w1.heap.size, 0, none⟩ = some (.string text) := by rw [← hwa]; exact World.cell?_alloc_new _ _ _ _
          have k1 : wa.cell? ⟨w1.heap.size, 1, none⟩ = some (.int .i64 A) := by rw [← hwa]; exact World.cell?_alloc_new _ _ _ _
          have k2 : wa.cell? ⟨w1.heap.size, 2, none⟩ = some (.slice none 0 0) := by rw [← hwa]; exact World.cell?_alloc_new _ _ _ _
          have k3 : wa.cell? ⟨w1.heap.size, 3, none⟩ = some (.int .i64 7) := by rw [← hwa]; exact World.cell?_alloc_new _ _ _ _
          have k4 : wa.cell? ⟨w1.heap.size, 4, none⟩ = some (.int .i64 3) := by rw [← hwa]; exact World.cell?_alloc_new _ _ _ _
          have k5 : wa.cell? ⟨w1.heap.size, 5, none⟩ = some (.int .i64 5) := by rw [← hwa]; exact World.cell?_alloc_new _ _ _ _
          have k6 : wa.cell? ⟨w1.heap.size, 6, none⟩ = some (.bool false) := by rw [← hwa]; exact World.cell?_alloc_new _ _ _ _
          have kf : wa.frozen? ⟨w1.heap.size, 1, none⟩ = false := by rw [← hwa]; exact frozen_new _ _ _ _
          have gr : Grown w1 wa := by rw [← hwa]; exact Grown.alloc (grown_drewN (Grown.refl _) q) _ _
          rw [hwa]
          clear hwa
          refine (lit_yes _ A text wd wa hA (by omega) (by omega) k0 k1 kf HP.out).mono ?_
          rintro e w2 ⟨rfl, q2, rfl⟩
          go_wp2_with fail
          refine (rest_any _ text _ ?_ ?_ ?_ ?_ ?_ ?_).mono ?_
          · exact (World.cell?_setCell_other _ _ _ _ (by simp)).trans k0
          · exact (World.cell?_setCell_other _ _ _ _ (by simp)).trans k2
          · exact (World.cell?_setCell_other _ _ _ _ (by simp)).trans k3
          · exact (World.cell?_setCell_other _ _ _ _ (by simp)).trans k4
          · exact (World.cell?_setCell_other _ _ _ _ (by simp)).trans k5
          · exact (World.cell?_setCell_other _ _ _ _ (by simp)).trans k6
          rintro e w3 ⟨rfl, rfl⟩
          go_wp2
          go_ret
          exact ⟨rfl, (grown_drewN gr q2).setCell (Nat.le_refl _) _⟩
  · have dP : decide ((A : Int) + (wd.size : Int) ≤ (text.size : Int)) = false := decide_eq_false (by omega)
    go_wp2
    refine wp_loop_rounds 1 ?_
    rw [rounds_succ]
    have HP : Hid (Lib.hasPrefix (text.extract A text.size).data.toList wd.data.toList = false) := agree_short hA hP
    go_wp2_with fail
    obtain ⟨wa, hwa⟩ : ∃ wa, World.alloc (w1) (Obj.cells #[Value.string text, .int .i64 A, .slice none 0 0, .int .i64 7, .int .i64 3, .int .i64 5, .bool false] 27) = wa := ⟨_, rfl⟩
    have k0 : wa.cell? ⟨w1.heap.size, 0, none⟩ = some (.string text) := by rw [← hwa]; exact World.cell?_alloc_new _ _ _ _
    have k1 : wa.cell? ⟨w1.heap.size, 1, none⟩ = some (.int .i64 A) := by rw [← hwa]; exact World.cell?_alloc_new _ _ _ _
    have k2 : wa.cell? ⟨w1.heap.size, 2, none⟩ = some (.slice none 0 0) := by rw [← hwa]; exact World.cell?_alloc_new _ _ _ _
    have k3 : wa.cell? ⟨w1.heap.size, 3, none⟩ = some (.int .i64 7) := by rw [← hwa]; exact World.cell?_alloc_new _ _ _ _
    have k4 : wa.cell? ⟨w1.heap.size, 4, none⟩ = some (.int .i64 3) := by rw [← hwa]; exact World.cell?_alloc_new _ _ _ _
    have k5 : wa.cell? ⟨w1.heap.size, 5, none⟩ = some (.int .i64 5) := by rw [← hwa]; exact World.cell?_alloc_new _ _ _ _
    have k6 : wa.cell? ⟨w1.heap.size, 6, none⟩ = some (.bool false) := by rw [← hwa]; exact World.cell?_alloc_new _ _ _ _
    have kf : wa.frozen? ⟨w1.heap.size, 1, none⟩ = false := by rw [← hwa]; exact frozen_new _ _ _ _
    have gr : Grown w1 wa := by rw [← hwa]; exact Grown.alloc (Grown.refl _) _ _
    rw [hwa]
    clear hwa
    refine (lit_no _ A text wd wa hA k0 k1 HP.out).mono ?_
    rintro e w2 ⟨rfl, q2, rfl⟩
    go_wp2_with fail
    refine (rest_any _ text (wa.drewN q2) k0 k2 k3 k4 k5 k6).mono ?_
    rintro e w3 ⟨rfl, rfl⟩
    go_wp2
    go_ret
    exact ⟨rfl, grown_drewN gr q2⟩

set_option maxHeartbeats 1000000 in
theorem agree_long (text raw : ByteArray) (at' a : Int) (w : World) (sh : text.size ≤ maxLen) (sr : raw.size ≤ maxLen)
    (hl : 1048576 < text.size ∨ 1048576 < raw.size) :
    Calls Yba.prog 3 #[.string text, .int .u64 at', .int .u8 a, .string raw] w fun e w' => e = .returned (.bool true) ∧ Grown w w' := by
  unfold maxLen at sh sr
  by_cases d1 : 1048576 < text.size
  · have e1 : decide ((1048576 : Int) < (text.size : Int)) = true := decide_eq_true (by omega)
    go_enter Yba.func3, Yba.ntmps3
    go_wp2
    go_ret
    exact ⟨rfl, Grown.refl _⟩
  · have e1 : decide ((1048576 : Int) < (text.size : Int)) = false := decide_eq_false (by omega)
    have e3 : decide ((1048576 : Int) < (raw.size : Int)) = true := decide_eq_true (by omega)
    go_enter Yba.func3, Yba.ntmps3
    go_wp2
    go_ret
    exact ⟨rfl, Grown.refl _⟩

theorem wf_u64 {x : Int} (h : (Lit.int .u64 x).wf = true) : 0 ≤ x ∧ x ≤ 18446744073709551615 := by
  have e1 : IntKind.u64.min = 0 := by decide
  have e2 : IntKind.u64.max = 18446744073709551615 := by decide
  simp only [Lit.wf, Bool.and_eq_true, decide_eq_true_eq, e1, e2] at h
  exact h
end Go.Proofs.Ybulkbyws
