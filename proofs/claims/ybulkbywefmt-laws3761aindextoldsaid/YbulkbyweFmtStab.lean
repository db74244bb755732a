import Derived.Test.YbulkbyweFmtStabP
import Derived.Deep.DeepCutAuto
namespace Go.Proofs.YbulkbyweFmt
open Go.Shelf Go.RowKit Go.Lib Go.Sort Go.Proofs

/-- What symMerge leaves. -/
def Done (blk off : Nat) (w0 : World) (a b : Nat) (d : Array (Nat × Nat)) (w' : World) : Prop :=
  ∃ d', (PermIn a b d d' ∧ SortedIn lexB a b d') ∧ SWK encP 2 w0 blk off d' w'

theorem ins_at (blk off cap : Nat) (d0 : Array (Nat × Nat)) (w0 : World) (R : RowK encP 2 w0 blk off d0) (hsz : d0.size < 1152921504606846976) (a b : Nat) (dk : Array (Nat × Nat)) (wk : World) (hs : dk.size = d0.size) (S : SWK encP 2 w0 blk off dk wk) (hab : a ≤ b) (hb : b ≤ d0.size) :
    Calls Ybaf.prog 44 #[.slice (some ⟨blk, off, none⟩) d0.size cap, .int .i64 a, .int .i64 b, .func (.func 14) #[] #[]] wk fun e w' =>
      e = .returned (.tuple #[]) ∧ SWK encP 2 w0 blk off (Sort.insertionSort (ltOf cmpP) dk a b) w' := by
  rw [← hs]
  refine (insertion44 blk off cap a b dk wk (S.holds R.hblk R.hH hs) (S.lt R.hblk) hab (by omega) (by omega)).mono ?_
  rintro e w' ⟨rfl, n, os, rfl⟩
  refine ⟨rfl, S.on R.hblk _ _ _ ?_⟩
  have hsw : SWO (ltOf cmpP) := by
    constructor
    · intro x; simp [ltOf, cmpP]
    · intro x y z; unfold ltOf cmpP; intro h1 h2; revert h1 h2; (repeat' split) <;> simp <;> omega
    · intro x y z; unfold ltOf cmpP; intro h1 h2; revert h1 h2; (repeat' split) <;> simp <;> omega
  exact (insertionSort_holds hsw dk a b hab (by omega)).1.1

set_option maxHeartbeats 1000000 in
set_option maxRecDepth 1000000 in
theorem stable_of (blk off cap n : Nat) (d0 : Array (Nat × Nat)) (w0 : World) (R : RowK encP 2 w0 blk off d0) (hn : d0.size = n) (hsz : n < 1152921504606846976) (hi : ∀ t, t < d0.size → (d0[t]!).2 = t)
    (IH : ∀ (a m b : Nat) (dk : Array (Nat × Nat)) (wk : World), dk.size = n → SWK encP 2 w0 blk off dk wk → Runs dk a m b → a < m → m < b → b ≤ n →
      Calls Ybaf.prog 45 #[.slice (some ⟨blk, off, none⟩) n cap, .int .i64 a, .int .i64 m, .int .i64 b, .func (.func 14) #[] #[]] wk fun e w' => e = .returned (.tuple #[]) ∧ Done blk off w0 a b dk w') :
    Calls Ybaf.prog 27 #[.slice (some ⟨blk, off, none⟩) n cap, .int .i64 n, .func (.func 14) #[] #[]] w0 fun e w' =>
      e = .returned (.tuple #[]) ∧ Done blk off w0 0 n d0 w' := by
  have IH0 : Aside _ := IH
  have HI : Aside _ := hi
  have S0 : Aside (SWK encP 2 w0 blk off d0 w0) := SWK.start R.hH
  have INS : Aside (∀ (a b : Nat) (dk : Array (Nat × Nat)) (wk : World), dk.size = n → SWK encP 2 w0 blk off dk wk → a ≤ b → b ≤ n → Calls Ybaf.prog 44 #[.slice (some ⟨blk, off, none⟩) n cap, .int .i64 a, .int .i64 b, .func (.func 14) #[] #[]] wk fun e w' =>
      e = .returned (.tuple #[]) ∧ SWK encP 2 w0 blk off (Sort.insertionSort (ltOf cmpP) dk a b) w') := fun a b dk wk h1 h2 h3 h4 => by
    have := ins_at blk off cap d0 w0 R (by omega) a b dk wk (by omega) h2 h3 (by omega)
    rw [hn] at this; exact this
  have HN : Hid (d0.size = n) := hn
  clear IH hi R hn
  go_enter Ybaf.func27, Ybaf.ntmps27
  go_wp2
  go_loopg [7, 8] n (fun kx s7 s8 wr => ∃ (a : Nat) (dk : Array (Nat × Nat)), s7 = .int .i64 a ∧ s8 = .int .i64 ((a + 20 : Nat) : Int) ∧ a ≤ n ∧ n - a ≤ kx ∧ dk.size = n ∧ Aside (Full dk 20 a ∧ PermIn 0 n d0 dk ∧ ∀ t, a ≤ t → dk[t]! = d0[t]!) ∧ Aside (SWK encP 2 w0 blk off dk wr))
  case atStart => exact ⟨0, d0, rfl, rfl, Nat.zero_le _, by omega, HN.out, ⟨.nil, permIn_refl _ _ _, fun _ _ => rfl⟩, S0⟩
  case round =>
    clear S0
    obtain ⟨a, dk, rfl, rfl, han, hkx, hds, F, S1⟩ := hrel
    obtain ⟨b, hb⟩ : ∃ b, a + 20 = b := ⟨_, rfl⟩
    rw [hb]
    by_cases hlt : b ≤ n
    · have hltz : (b : Int) ≤ (n : Int) := by omega
      have g := good_block (ev := d0) (d := dk) (a := a) (b := b) (by omega) (by omega) HI.out (by rw [hds, HN.out]) F.out.2.2
      have F2 : Aside (Full (insertionSort (ltOf cmpP) dk a b) 20 b ∧ PermIn 0 n d0 (insertionSort (ltOf cmpP) dk a b) ∧ ∀ t, b ≤ t → (insertionSort (ltOf cmpP) dk a b)[t]! = d0[t]!) := by
        refine ⟨?_, ?_, fun t ht => ?_⟩
        · have := Full.snoc (d := insertionSort (ltOf cmpP) dk a b) (z := 20) a (F.out.1.perm g.1 (Nat.le_refl _)) (by rw [hb]; exact g.2)
          rw [hb] at this; exact this
        · exact permIn_trans _ _ _ _ _ F.out.2.1 (permIn_mono _ _ _ _ _ _ (Nat.zero_le _) hlt (by omega) g.1)
        · rw [g.1.2.1 t (by omega)]; exact F.out.2.2 t (by omega)
      have hz2 : (insertionSort (ltOf cmpP) dk a b).size = n := by rw [g.1.1]; exact hds
      have hcon := INS.out a b dk _ hds S1.out (by omega) hlt
      clear g F
      generalize insertionSort (ltOf cmpP) dk a b = d2 at F2 hz2 hcon
      go_wp2_with (go_at_call 44; refine hcon.mono ?_; rintro e w' ⟨rfl, S2⟩)
      go_roundg (n - b)
      case measure => omega
      case rel => exact ⟨b, d2, rfl, by go_num, hlt, Nat.le_refl _, hz2, F2, S2⟩
    · have hltz : ¬ (b : Int) ≤ (n : Int) := by omega
      have g := good_block (ev := d0) (d := dk) (a := a) (b := n) (by omega) (by omega) HI.out (by rw [hds, HN.out]) F.out.2.2
      have F2 : Aside (Tiles (insertionSort (ltOf cmpP) dk a n) 20 0 n ∧ PermIn 0 n d0 (insertionSort (ltOf cmpP) dk a n)) := by
        refine ⟨?_, ?_⟩
        · exact (F.out.1.perm g.1 (Nat.le_refl _)).tiles (Tiles.grow han (by omega) fun _ => g.2) (by omega)
        · exact permIn_trans _ _ _ _ _ F.out.2.1 (permIn_mono _ _ _ _ _ _ (Nat.zero_le _) (Nat.le_refl _) (by omega) g.1)
      have hz2 : (insertionSort (ltOf cmpP) dk a n).size = n := by rw [g.1.1]; exact hds
      have hcon := INS.out a n dk _ hds S1.out han (Nat.le_refl _)
      clear g F
      generalize insertionSort (ltOf cmpP) dk a n = d2 at F2 hz2 hcon
      go_wp2_with (go_at_call 44; refine hcon.mono ?_; rintro e w' ⟨rfl, S2⟩)
      clear hcon
      go_loopg [6] n (fun kx s6 wr => ∃ (z : Nat) (dk : Array (Nat × Nat)), s6 = .int .i64 z ∧ 0 < z ∧ z < 2305843009213693952 ∧ n - z ≤ kx ∧ dk.size = n ∧ Aside (Tiles dk z 0 n ∧ PermIn 0 n d0 dk) ∧ Aside (SWK encP 2 w0 blk off dk wr))
      case atStart => exact ⟨20, d2, rfl, by omega, by omega, by omega, hz2, F2, S2⟩
      case round =>
        clear S1 S2 F2 hz2 hds hb hltz hlt hkx han
        obtain ⟨z, dz, rfl, hz0, hz1, hkx, hds, F, S1⟩ := hrel
        by_cases hlt : z < n
        · have hltz : (z : Int) < (n : Int) := by omega
          obtain ⟨y, hy⟩ : ∃ y, z + z = y := ⟨_, rfl⟩
          have rz : IntKind.i64.wrap (2 * (z : Int)) = (y : Int) := by rw [IntKind.wrap_i64]; omega
          have rz2 : IntKind.i64.wrap ((z : Int) * 2) = (y : Int) := by rw [IntKind.wrap_i64]; omega
          have HY : Hid (z + z = y) := hy
          have hy0 : y < 4611686018427387904 := by omega
          have hy1 : 0 < y := by omega
          clear hy
          go_wp2
          go_loopg [7, 8] n (fun kx s7 s8 wr => ∃ (a : Nat) (dk : Array (Nat × Nat)), s7 = .int .i64 a ∧ s8 = .int .i64 ((a + y : Nat) : Int) ∧ a ≤ n ∧ n - a ≤ kx ∧ dk.size = n ∧ Aside (Full dk y a ∧ Tiles dk z a n ∧ PermIn 0 n d0 dk) ∧ Aside (SWK encP 2 w0 blk off dk wr))
          case atStart => exact ⟨0, dz, rfl, by go_num, Nat.zero_le _, by omega, hds, ⟨.nil, F.out.1, F.out.2⟩, S1⟩
          case round =>
            clear S1 F hds dz
            obtain ⟨a, dk, rfl, rfl, han, hkx2, hds, F, S1⟩ := hrel
            obtain ⟨b, hb⟩ : ∃ b, a + y = b := ⟨_, rfl⟩
            obtain ⟨m, hm⟩ : ∃ m, a + z = m := ⟨_, rfl⟩
            have rm : IntKind.i64.wrap ((a : Int) + (z : Int)) = (m : Int) := by rw [IntKind.wrap_i64]; omega
            rw [hb]
            have HB : Hid (a + y = b ∧ a + z = m) := ⟨hb, hm⟩
            by_cases hle : b ≤ n
            · have hlez : (b : Int) ≤ (n : Int) := by omega
              have hyz := HY.out
              have T := F.out.2.1.two hz0 (by omega)
              have T3 := T.2.2 (by omega)
              have T1 := T.1
              rw [show a + z + z = b by omega, hm] at T3
              rw [hm] at T1
              have T1' : Aside _ := T1
              have T3' : Aside _ := T3
              have am : a < m := by omega
              have mb : m < b := by omega
              have b2 : IntKind.i64.wrap ((b : Int) + (y : Int)) = ((b + y : Nat) : Int) := by rw [IntKind.wrap_i64]; omega
              have hcon := IH0.out a m b dk _ hds S1.out (T1.runs T3.1) am mb hle
              clear T T1 T3 hb hm hyz
              go_wp2_with (go_at_call 45; refine hcon.mono ?_; rintro e w' ⟨rfl, d3, PS, S2⟩)
              have PS0 : Aside _ := PS
              have S20 : Aside _ := S2
              clear PS S2 hcon S1
              go_roundg (n - b)
              case measure => have := HB.out; omega
              case rel =>
                refine ⟨b, d3, rfl, by go_num, hle, Nat.le_refl _, PS0.out.1.1.trans hds, ⟨?_, T3'.out.2.perm PS0.out.1 (Nat.le_refl _), permIn_trans _ _ _ _ _ F.out.2.2 (permIn_mono _ _ _ _ _ _ (Nat.zero_le _) hle (by omega) PS0.out.1)⟩, S20⟩
                have G := T1'.out.merged T3'.out.1 (by omega) (by omega) (by omega) PS0.out.1 PS0.out.2
                have := Full.snoc (d := d3) (z := y) a (F.out.1.perm PS0.out.1 (Nat.le_refl _)) (by rw [HB.out.1]; exact G)
                rw [HB.out.1] at this; exact this
            · have hlez : ¬ (b : Int) ≤ (n : Int) := by omega
              have hyz := HY.out
              have hny : n ≤ a + y := by omega
              have hyz1 : n - y ≤ n - z := by omega
              by_cases hmn : m < n
              · have hmz : (m : Int) < (n : Int) := by omega
                have T := F.out.2.1.two hz0 (by omega)
                have T3 := T.2.1 (by omega)
                have T1 := T.1
                rw [hm] at T3 T1
                have T1' : Aside _ := T1
                have T3' : Aside _ := T3
                have am : a < m := by omega
                have hcon := IH0.out a m n dk _ hds S1.out (T1.runs T3) am hmn (Nat.le_refl _)
                clear T T1 T3 hb hm hyz
                go_wp2_with (go_at_call 45; refine hcon.mono ?_; rintro e w' ⟨rfl, d3, PS, S2⟩)
                have PS0 : Aside _ := PS
                have S20 : Aside _ := S2
                clear PS S2 hcon S1
                go_roundg (n - y)
                case measure => have := HY.out; omega
                case rel =>
                  refine ⟨y, d3, by go_num, hy1, by have := HB.out; have := HY.out; omega, Nat.le_refl _, PS0.out.1.1.trans hds, ⟨?_, permIn_trans _ _ _ _ _ F.out.2.2 (permIn_mono _ _ _ _ _ _ (Nat.zero_le _) (Nat.le_refl _) (by omega) PS0.out.1)⟩, S20⟩
                  have G := T1'.out.merged T3'.out (by omega) (by omega) (by omega) PS0.out.1 PS0.out.2
                  exact (F.out.1.perm PS0.out.1 (Nat.le_refl _)).tiles (Tiles.grow han hny fun _ => G) hy1
              · have hmz : ¬ (m : Int) < (n : Int) := by omega
                have T : Aside (Tiles dk y 0 n) := F.out.1.tiles (Tiles.grow han hny fun c => F.out.2.1.one (by omega) c) hy1
                clear hb hm hyz
                go_wp2
                go_roundg (n - y)
                case measure => have := HY.out; omega
                case rel => exact ⟨y, dk, by go_num, hy1, by have := HB.out; have := HY.out; omega, Nat.le_refl _, hds, ⟨T.out, F.out.2.2⟩, S1⟩
        · have hltz : ¬ (z : Int) < (n : Int) := by omega
          go_wp2
          go_end0
          refine ⟨rfl, dz, ⟨F.out.2, ?_⟩, S1.out⟩
          by_cases c : 0 < n
          · exact (F.out.1.one (by omega) c).srt
          · intro i j; omega
end Go.Proofs.YbulkbyweFmt
