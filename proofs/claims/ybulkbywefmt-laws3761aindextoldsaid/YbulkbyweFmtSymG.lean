import Derived.Test.YbulkbyweFmtSymR
import Derived.Test.YbulkbyweFmtStab
import Derived.Deep.DeepCutAuto
namespace Go.Proofs.YbulkbyweFmt
open Go.Shelf Go.RowKit Go.Lib Go.Sort Go.Proofs

/-- What the search of the cut begins with. -/
structure Beg (a m b mid n s0 r0 : Nat) : Prop where
  e0 : n = mid + m
  e1 : a ≤ s0
  e2 : s0 ≤ r0
  e3 : r0 ≤ m
  e4 : r0 ≤ mid
  e5 : n ≤ b + s0
  e6 : m + r0 ≤ n
  e7 : s0 = a ∨ n = b + s0
  e8 : r0 = m ∨ n = m + r0

set_option maxHeartbeats 6000000 in
set_option maxRecDepth 1000000 in
theorem sym_gen (blk off cap a m b : Nat) (d0 d : Array (Nat × Nat)) (w0 w : World) (R : RowK encP 2 w0 blk off d0) (hs : d0.size = d.size) (S : SWK encP 2 w0 blk off d w)
    (U : Runs d a m b) (ham : a + 1 < m) (hmb : m + 1 < b) (hb : b ≤ d.size) (hsz : d.size < 4611686018427387904)
    (IH : ∀ (a' m' b' : Nat) (dk : Array (Nat × Nat)) (wk : World), b' - a' < b - a → dk.size = d.size → SWK encP 2 w0 blk off dk wk → Runs dk a' m' b' → a' < m' → m' < b' → b' ≤ d.size →
      Calls Ybaf.prog 45 #[.slice (some ⟨blk, off, none⟩) d.size cap, .int .i64 a', .int .i64 m', .int .i64 b', .func (.func 14) #[] #[]] wk fun e w' => e = .returned (.tuple #[]) ∧ Done blk off w0 a' b' dk w') :
    Calls Ybaf.prog 45 #[.slice (some ⟨blk, off, none⟩) d.size cap, .int .i64 a, .int .i64 m, .int .i64 b, .func (.func 14) #[] #[]] w fun e w' =>
      e = .returned (.tuple #[]) ∧ Done blk off w0 a b d w' := by
  have mixed := Ybaf.laysIns.mixed
  have eg := enters14
  have S0 : Aside (SWK encP 2 w0 blk off d w) := S
  have U0 : Aside (Runs d a m b) := U
  have IH0 : Aside _ := IH
  clear S U IH
  obtain ⟨q, hq⟩ : ∃ q, m - a = q := ⟨_, rfl⟩
  have r00 : IntKind.i64.wrap ((m : Int) - (a : Int)) = (q : Int) := by rw [IntKind.wrap_i64]; omega
  have r0 : ((q : Int) == 1) = false := by simp; omega
  clear hq
  obtain ⟨q2, hq2⟩ : ∃ q2, b - m = q2 := ⟨_, rfl⟩
  have r01 : IntKind.i64.wrap ((b : Int) - (m : Int)) = (q2 : Int) := by rw [IntKind.wrap_i64]; omega
  have r1 : ((q2 : Int) == 1) = false := by simp; omega
  clear hq2
  obtain ⟨mid, hmid⟩ : ∃ mid, (a + b) / 2 = mid := ⟨_, rfl⟩
  have rmid : ((a : Int) + (b : Int)) / 2 = (mid : Int) := by omega
  obtain ⟨n, hn⟩ : ∃ n, mid + m = n := ⟨_, rfl⟩
  have rn : (mid : Int) + (m : Int) = (n : Int) := by omega
  have HN : Hid (mid + m = n ∧ a + b ≤ 2 * mid + 1 ∧ 2 * mid ≤ a + b) := ⟨hn, by omega, by omega⟩
  have nb : n < 9223372036854775807 := by omega
  clear hmid hn
  go_enter Ybaf.func45, Ybaf.ntmps45
  go_upto_if 140 with (fail)
  go_cut [20, 21] (fun s20 s21 wc => ∃ (s0 r0 : Nat), s20 = .int .i64 s0 ∧ s21 = .int .i64 r0 ∧ Aside (Beg a m b mid n s0 r0) ∧ wc = w)
  case first => as_aux_lemma =>
    by_cases hmm : mid < m
    · have hmz : (mid : Int) < (m : Int) := by omega
      have r2 : IntKind.i64.wrap ((n : Int) - (b : Int)) = ((n - b : Nat) : Int) := by rw [IntKind.wrap_i64]; have := HN.out; omega
      go_wp2_with fail
      go_meet
      case rel => exact ⟨n - b, mid, by have := HN.out; first | rfl | go_num | (congr 1; omega), rfl, by have := HN.out; exact ⟨by omega, by omega, by omega, by omega, by omega, by omega, by omega, by omega, by omega⟩, rfl⟩
    · have hmz : ¬ (mid : Int) < (m : Int) := by omega
      go_wp2_with fail
      go_meet
      case rel => exact ⟨a, m, rfl, rfl, by have := HN.out; exact ⟨by omega, by omega, by omega, by omega, by omega, by omega, by omega, by omega, by omega⟩, rfl⟩
  case rest =>
    obtain ⟨s0, t0, rfl, rfl, BG, rfl⟩ := hcut
    have hst := BG.out.e2
    have htm := BG.out.e3
    have hn0 : 0 < n := by have := BG.out.e6; omega
    obtain ⟨p, hp⟩ : ∃ p, n - 1 = p := ⟨_, rfl⟩
    have rp : IntKind.i64.wrap ((n : Int) - 1) = (p : Int) := by rw [IntKind.wrap_i64]; omega
    have HP : Hid (n - 1 = p) := hp
    clear hp
    go_wp2
    go_loopg [20, 21] (t0 - s0) (fun kx s20 s21 wr => ∃ (s r : Nat), s20 = .int .i64 s ∧ s21 = .int .i64 r ∧ s0 ≤ s ∧ s ≤ r ∧ r ≤ t0 ∧ r - s ≤ kx ∧
      Aside ((s0 < s → lexB d[s - 1]! d[n - s]! = true) ∧ (r < t0 → lexB d[n - 1 - r]! d[r]! = true)) ∧ Aside (SWK encP 2 w0 blk off d wr))
    case atStart => exact ⟨s0, t0, rfl, rfl, Nat.le_refl _, hst, Nat.le_refl _, Nat.le_refl _, ⟨fun h => absurd h (Nat.lt_irrefl _), fun h => absurd h (Nat.lt_irrefl _)⟩, S0⟩
    case round =>
      clear S0
      obtain ⟨s, r, rfl, rfl, hs0, hsr, hr0, hkx, I, S1⟩ := hrel
      by_cases hlt : s < r
      · have hltz : (s : Int) < (r : Int) := by omega
        obtain ⟨c, hc⟩ : ∃ c, (s + r) / 2 = c := ⟨_, rfl⟩
        have rc : ((s : Int) + (r : Int)) / 2 = (c : Int) := by omega
        have hi1 : s ≤ c := by omega
        have hj1 : c < r := by omega
        clear hc
        have g5 := BG.out.e5
        have g6 := BG.out.e6
        have g1 := BG.out.e1
        obtain ⟨y, hy⟩ : ∃ y, n - 1 - c = y := ⟨_, rfl⟩
        have ry : IntKind.i64.wrap ((p : Int) - (c : Int)) = (y : Int) := by rw [IntKind.wrap_i64]; have := HP.out; omega
        have py : (0 : Int) ≤ (y : Int) := by omega
        have y1' : m ≤ y := by omega
        have y2' : y < b := by omega
        have HY : Hid (n - 1 - c = y) := hy
        clear hy g5 g6
        have c1 := swk_cells S1.out R (by omega) y (by omega)
        have c2 := swk_cells S1.out R (by omega) c (by omega)
        have c1a := fun n os => (c1 n os).1
        have c1b := fun n os => (c1 n os).2
        have c2a := fun n os => (c2 n os).1
        have c2b := fun n os => (c2 n os).2
        have hcm := fun n os => cmp_grown d[y]! d[c]! wr n os
        have hx : (d[c]!).2 < (d[y]!).2 := U0.out.cross c y (by omega) (by omega) y1' y2'
        have b1 : (y : Int) < (d.size : Int) := by omega
        have b2 : (c : Int) < (d.size : Int) := by omega
        by_cases hlv : cmpP d[y]! d[c]! < 0
        · as_aux_lemma =>
          have L : Hid (lexB d[y]! d[c]! = true) := (cmpP_lt hx).1 hlv
          clear c1 c2 hx
          generalize cmpP d[y]! d[c]! = v at hcm hlv
          generalize (d[y]!).1 = x1 at c1a hcm
          generalize (d[y]!).2 = x2 at c1b hcm
          generalize (d[c]!).1 = z1 at c2a hcm
          generalize (d[c]!).2 = z2 at c2b hcm
          go_wp2_with fail
          go_quiet_grown (first | (go_at_fn 14; refine hcm _ _))
          have S2 : Aside (SWK encP 2 w0 blk off d (grow (wr.drewN nq) osq)) := S1.out.grown nq osq
          clear c1a c1b c2a c2b hcm S1
          generalize grow (wr.drewN nq) osq = w2 at S2 ⊢
          clear nq osq
          go_wp2
          go_roundg (c - s)
          case measure => omega
          case rel => exact ⟨s, c, rfl, by go_num, hs0, hi1, by omega, Nat.le_refl _, ⟨I.out.1, fun _ => by rw [HY.out]; exact L.out⟩, S2⟩
        · as_aux_lemma =>
          have L : Hid (lexB d[c]! d[y]! = true) := (cmpP_nlt hx).1 hlv
          clear c1 c2 hx
          generalize cmpP d[y]! d[c]! = v at hcm hlv
          generalize (d[y]!).1 = x1 at c1a hcm
          generalize (d[y]!).2 = x2 at c1b hcm
          generalize (d[c]!).1 = z1 at c2a hcm
          generalize (d[c]!).2 = z2 at c2b hcm
          have hlv0 : 0 ≤ v := by omega
          have hlv1 : decide (v < 0) = false := by simp; omega
          go_wp2_with fail
          go_quiet_grown (first | (go_at_fn 14; refine hcm _ _))
          have S2 : Aside (SWK encP 2 w0 blk off d (grow (wr.drewN nq) osq)) := S1.out.grown nq osq
          clear c1a c1b c2a c2b hcm S1
          generalize grow (wr.drewN nq) osq = w2 at S2 ⊢
          clear nq osq
          go_wp2
          go_roundg (r - (c + 1))
          case measure => omega
          case rel => exact ⟨c + 1, r, by go_num, rfl, by omega, by omega, hr0, Nat.le_refl _, ⟨fun _ => by rw [Nat.add_sub_cancel, show n - (c + 1) = n - 1 - c by omega, HY.out]; exact L.out, I.out.2⟩, S2⟩
      · have hltz : ¬ (s : Int) < (r : Int) := by omega
        obtain rfl : s = r := by omega
        obtain ⟨e, he⟩ : ∃ e, n - s = e := ⟨_, rfl⟩
        have re : IntKind.i64.wrap ((n : Int) - (s : Int)) = (e : Int) := by rw [IntKind.wrap_i64]; have := BG.out.e6; omega
        have C : Aside (Cut d a m b s e) := by
          have bg := BG.out
          obtain ⟨e0, e1, e2, e3, e4, e5, e6, e7, e8⟩ := bg
          refine ⟨by omega, by omega, by omega, by omega, fun h1 h2 => ?_, fun h1 h2 => ?_⟩
          · rw [← he]; exact I.out.1 (by omega)
          · have := I.out.2 (by omega)
            rw [show n - 1 - s = e - 1 by omega] at this; exact this
        have hmid2 : s + (e - m) = mid := by have := BG.out; obtain ⟨e0, e1, e2, e3, e4, e5, e6, e7, e8⟩ := this; omega
        have HMID : Hid (s + (e - m) = mid) := hmid2
        have f1 := C.out.c1
        have f2 := C.out.c2
        have f3 := C.out.c3
        have f4 := C.out.c4
        have f5 : s ≤ mid := by omega
        have f6 : mid ≤ e := by omega
        have f7 : mid < b := by have := HN.out; omega
        have f8 : a < mid := by have := HN.out; omega
        clear he hmid2 I
        have S2 := S1
        clear S1
        go_upto_region 39 with (fail)
        go_cut [185] (fun s185 wc => ∃ bb : Bool, s185 = .bool bb ∧ Aside (bb = true ↔ s < m ∧ m < e) ∧ wc = wr)
        case first => as_aux_lemma =>
          by_cases g1 : s < m
          · have g1z : (s : Int) < (m : Int) := by omega
            by_cases g2 : m < e
            · have g2z : (m : Int) < (e : Int) := by omega
              go_wp2_with fail
              go_meet
              case rel => exact ⟨true, rfl, (show _ ↔ _ by simp [g1, g2]), rfl⟩
            · have g2z : ¬ (m : Int) < (e : Int) := by omega
              go_wp2_with fail
              go_meet
              case rel => exact ⟨false, rfl, (show _ ↔ _ by simp [g2]), rfl⟩
          · have g1z : ¬ (s : Int) < (m : Int) := by omega
            go_wp2_with fail
            go_meet
            case rel => exact ⟨false, rfl, (show _ ↔ _ by simp [g1]), rfl⟩
        case rest =>
          obtain ⟨bb, rfl, BB, rfl⟩ := hcut
          go_upto_if 185 with (fail)
          go_cut [] (fun wc => ∃ d1, Aside (RotR d d1 s m e) ∧ Aside (SWK encP 2 w0 blk off d1 wc))
          case first => as_aux_lemma =>
            cases bb
            · have hid : RotR d d s m e := RotR.id (by have := BB.out; simp at this; omega) f2 f3
              have HID : Hid (RotR d d s m e) := hid
              clear hid
              go_wp2_with fail
              go_meet
              case rel => exact ⟨d, HID.out, S2⟩
            · have g := BB.out.1 rfl
              have hcon := rotate54 blk off cap s m e d0 d w0 _ R hs S2.out g.1 g.2 (by omega) hsz
              clear g
              go_wp2_with (go_at_call 54; refine hcon.mono ?_; rintro e' w' ⟨rfl, d1, HR, S3⟩)
              go_meet
              case rel => exact ⟨d1, HR, S3⟩
          case rest =>
            obtain ⟨d1, HR, S3⟩ := hcut
            clear S2
            have hd1 : d1.size = d.size := HR.out.1
            have LO : Aside (Runs d1 a s mid) := by have := C.out.low U0.out HR.out; rw [HMID.out] at this; exact this
            have HI : Aside (Runs d1 mid e b) := by have := C.out.high U0.out HR.out; rw [HMID.out] at this; exact this
            go_upto_region 41 with (fail)
            go_cut [199] (fun s199 wd => ∃ bb : Bool, s199 = .bool bb ∧ Aside (bb = true ↔ a < s ∧ s < mid) ∧ wd = wc)
            case first => as_aux_lemma =>
              by_cases g1 : a < s
              · have g1z : (a : Int) < (s : Int) := by omega
                by_cases g2 : s < mid
                · have g2z : (s : Int) < (mid : Int) := by omega
                  go_wp2_with fail
                  go_meet
                  case rel => exact ⟨true, rfl, (show _ ↔ _ by simp [g1, g2]), rfl⟩
                · have g2z : ¬ (s : Int) < (mid : Int) := by omega
                  go_wp2_with fail
                  go_meet
                  case rel => exact ⟨false, rfl, (show _ ↔ _ by simp [g2]), rfl⟩
              · have g1z : ¬ (a : Int) < (s : Int) := by omega
                go_wp2_with fail
                go_meet
                case rel => exact ⟨false, rfl, (show _ ↔ _ by simp [g1]), rfl⟩
            case rest =>
              obtain ⟨b2, rfl, BB2, rfl⟩ := hcut
              go_upto_if 199 with (fail)
              go_cut [] (fun wc => ∃ d2, Aside (PermIn a mid d1 d2 ∧ SortedIn lexB a mid d2) ∧ Aside (SWK encP 2 w0 blk off d2 wc))
              case first => as_aux_lemma =>
                cases b2
                · have hid : SortedIn lexB a mid d1 := LO.out.one (by have := BB2.out; simp at this; omega)
                  have HID : Hid (SortedIn lexB a mid d1) := hid
                  clear hid
                  go_wp2_with fail
                  go_meet
                  case rel => exact ⟨d1, ⟨permIn_refl _ _ _, HID.out⟩, S3⟩
                · have g := BB2.out.1 rfl
                  have hcon := IH0.out a s mid d1 _ (by omega) hd1 S3.out LO.out g.1 g.2 (by omega)
                  clear g
                  go_wp2_with (go_at_call 45; refine hcon.mono ?_; rintro e' w' ⟨rfl, d2, HD, S4⟩)
                  go_meet
                  case rel => exact ⟨d2, HD, S4⟩
              case rest =>
                obtain ⟨d2, HD2, S4⟩ := hcut
                clear S3
                have hd2 : d2.size = d.size := HD2.out.1.1.trans hd1
                have HI2 : Aside (Runs d2 mid e b) := HI.out.perm HD2.out.1 (Or.inl (Nat.le_refl _)) f6 f4
                clear HI LO
                go_upto_region 43 with (fail)
                go_cut [213] (fun s213 wd => ∃ bb : Bool, s213 = .bool bb ∧ Aside (bb = true ↔ mid < e ∧ e < b) ∧ wd = wc)
                case first => as_aux_lemma =>
                  by_cases g1 : mid < e
                  · have g1z : (mid : Int) < (e : Int) := by omega
                    by_cases g2 : e < b
                    · have g2z : (e : Int) < (b : Int) := by omega
                      go_wp2_with fail
                      go_meet
                      case rel => exact ⟨true, rfl, (show _ ↔ _ by simp [g1, g2]), rfl⟩
                    · have g2z : ¬ (e : Int) < (b : Int) := by omega
                      go_wp2_with fail
                      go_meet
                      case rel => exact ⟨false, rfl, (show _ ↔ _ by simp [g2]), rfl⟩
                  · have g1z : ¬ (mid : Int) < (e : Int) := by omega
                    go_wp2_with fail
                    go_meet
                    case rel => exact ⟨false, rfl, (show _ ↔ _ by simp [g1]), rfl⟩
                case rest =>
                  obtain ⟨b3, rfl, BB3, rfl⟩ := hcut
                  have FIN : Aside (∀ d3, PermIn mid b d2 d3 → SortedIn lexB mid b d3 → PermIn a b d d3 ∧ SortedIn lexB a b d3) := fun d3 h1 h2 => by
                    have e := HMID.out
                    exact merge_done C.out U0.out HR.out hb (by rw [e]; exact HD2.out.1) (by rw [e]; exact HD2.out.2) (by rw [e]; exact h1) (by rw [e]; exact h2)
                  cases b3
                  · have hid : SortedIn lexB mid b d2 := HI2.out.one (by have := BB3.out; simp at this; omega)
                    have HID : Hid (SortedIn lexB mid b d2) := hid
                    clear hid
                    go_wp2
                    go_end0
                    exact ⟨rfl, d2, FIN.out d2 (permIn_refl _ _ _) HID.out, S4.out⟩
                  · as_aux_lemma =>
                    have g := BB3.out.1 rfl
                    have hcon := IH0.out mid e b d2 _ (by omega) hd2 S4.out HI2.out g.1 g.2 hb
                    clear g
                    go_wp2_with (go_at_call 45; refine hcon.mono ?_; rintro e' w' ⟨rfl, d3, HD, S5⟩)
                    go_end0
                    exact ⟨rfl, d3, FIN.out d3 HD.1 HD.2, S5⟩
end Go.Proofs.YbulkbyweFmt
