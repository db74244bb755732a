import Derived.Test.YbulkbyweFmtSx
namespace Go.Proofs.YbulkbyweFmt
open Go.Shelf Go.RowKit Go.Lib Go.Sort Go.Proofs
open Go.Extern.Stop Go.Stop Go.Extern

/-- The events are sorted. -/
def Srt2 (d : TD) (W wr : World) (g : Nat) : Prop := ∃ dS : Array (Nat × Nat), dS.toList = srt d.ps d.n ∧ EvR wr g d.n dS ∧ Fr (fun k => k = g) W wr

theorem srt2_of {d : TD} {W w' : World} {g : Nat} {dk : Array (Nat × Nat)} (E : EvR W g d.n (evs d.ps d.n)) (hg : g < W.heap.size) (h : SWK encP 2 W g 0 dk w') (hp : PermIn 0 d.n (evs d.ps d.n) dk) (hs : SortedIn lexB 0 d.n dk) : Srt2 d W w' g := by
  have e := srt_of d.ps d.n dk hp hs
  have hz : dk.size = d.n := by
    have := congrArg List.length e
    rwa [srt_len, Array.length_toList] at this
  refine ⟨dk, e, ?_, SWK_fr h⟩
  obtain ⟨m, os, rfl⟩ := h
  exact EvR.ofHolds hz (holdsK_sortWorldK_c (d := evs d.ps d.n) (dk := dk) (m := m) (os := os) (hH := E.holds) (hblk := hg) (hs := by rw [hz, evs_size]))

theorem srt2_tags {d : TD} {dS : Array (Nat × Nat)} (h : dS.toList = srt d.ps d.n) : ∀ i, i < d.n → ∃ x1 x2, dS[i]! = (x1, x2) ∧ (srt d.ps d.n)[i]? = some (x1, x2) := fun i hi => by
  have hz : dS.size = d.n := by
    have := congrArg List.length h
    rwa [srt_len, Array.length_toList] at this
  refine ⟨dS[i]!.1, dS[i]!.2, rfl, ?_⟩
  rw [← h, getElem!_pos dS i (by omega)]
  simp [hz, hi]

/-- The cursor and the sort leave it all. -/
theorem IxR.step {w W0 W : World} {p j ge L0 C0 : Nat} {dd : Nat → TD} {pv : Value} {base0 : Option Addr} (I : IxR w W0 p j dd pv) (hge : W0.heap.size = ge) (A0 : AtS W0 p base0 L0 C0) (BP : ∀ g, AtB base0 g → p < g) (hpw : p < ge) (tp : ∀ k, k < 2 → (dd k).t < p) (hj : j ≤ 2)
    (f : Fr (fun g => g = p ∨ AtB base0 g ∨ ge ≤ g) W0 W) (at' : ∃ base L C, AtS W p base L C ∧ L ≤ 16 ∧ ∀ g, AtB base g → p < g) : IxR w W p j dd pv := by
  have lo : ∀ k, k < p → ¬ (k = p ∨ AtB base0 k ∨ ge ≤ k) := fun k hk h => by
    rcases h with h | h | h
    · omega
    · have := BP k h; omega
    · omega
  have tg : ∀ g, AtB base0 g → Tag W0 g 21 := fun g hg => by
    obtain ⟨a, ha, rfl⟩ := hg
    obtain ⟨g, cur, rfl, h, -⟩ := A0.row a ha
    exact ⟨cur, h⟩
  refine ⟨?_, at', fun k h1 h2 => (I.ts k h1 h2).fr f lo, fun k h1 => (I.tr k h1).fr f (lo _ (tp k (by omega))) (fun g h1 h2 h3 => ?_) f.size, I.fr.trans f (fun _ h => h) (fun k _ h => ?_)⟩
  · obtain ⟨L5, h1, h2, h3⟩ := I.pr
    refine ⟨L5, h1, h2, f.owns h3 fun k hk hx => ?_⟩
    have hb := h3.lt k hk
    rcases hx with h | h | h
    · omega
    · exact absurd ((own_tag h3 k hk).ne (tg k h)) (by decide)
    · omega
  · rcases h3 with h | h | h
    · omega
    · exact ⟨fun t => absurd (t.ne (tg g h)) (by decide), fun t => absurd (t.ne (tg g h)) (by decide)⟩
    · omega
  · rcases h with h | h | h
    · exact Or.inr (Or.inr (by omega))
    · have := BP k h; exact Or.inr (Or.inr (by omega))
    · exact Or.inr (Or.inr (by omega))

theorem IxR.next {w Wb V V' : World} {p j G lg fb fc nb nc gv : Nat} {dd : Nat → TD} {d : TD} {pv0 pv kv qv : Value} {D0 : Nat → Value} {dS : Array (Nat × Nat)} {L5 : List ((Bool × Nat) × ByteArray)} (I : IxR w Wb p j dd pv0) (hj : j < 2) (hd : dd j = d) (hr : runsB d.ps d.n = false) (hG : Wb.heap.size = G)
    (C : SC d Wb p G lg fb fc nb nc gv dS pv0 D0) (tp : ∀ k, k < 2 → (dd k).t < p) (A : ∀ k, k < 2 → k ≠ j → Away (dd k) d.t)
    (S : SX d Wb V p G pv0 pv kv qv L5 (scn d.sk d.ps d.n d.n).ks (scn d.sk d.ps d.n d.n).qs D0) (hL : L5.map (·.1) = prs dd j ++ (scn d.sk d.ps d.n d.n).pr) (hl : L5.length ≤ 512 * j + d.n)
    (f5 : Fr (fun k => k = d.t) V V') (c5 : V'.cell? ⟨d.t, 5, none⟩ = some (if (scn d.sk d.ps d.n d.n).ks = List.range d.n then .slice none 0 0 else kv)) (c6 : V'.cell? ⟨d.t, 6, none⟩ = some qv) : IxR w V' p (j + 1) dd pv := by
  have hG1 := C.gvG
  have htp := C.tl.ltT.1
  have fV : Fr (fun k => k = d.t ∨ pv0.ownBlock = some k ∨ G ≤ k) Wb V' := S.fr.trans f5 (fun _ h => h) (fun _ _ h => Or.inl h)
  have np : ∀ k, pv0.ownBlock = some k → Tag Wb k 51 := fun k hk => by
    obtain ⟨L, -, -, h⟩ := I.pr
    exact own_tag h k hk
  refine ⟨⟨L5, ?_, ?_, f5.owns S.r4.p fun k hk e => ?_⟩, ?_, fun k h1 h2 => ?_, fun k h1 => ?_, I.fr.trans fV (fun _ h => h) (fun k _ h => ?_)⟩
  · rw [hL, prs_succ, hd, prd, hr]; rfl
  · have := C.tl.n2; omega
  · have := (S.r4.p.lt k hk).1; omega
  · obtain ⟨base, L, Cc, h1, h2, h3⟩ := I.at_
    refine ⟨base, L, Cc, h1.fr fV ?_ (fun g hg => ?_), h2, h3⟩
    · rintro (h | h | h)
      · omega
      · have := C.pv _ h; omega
      · omega
    · rintro (h | h | h)
      · have := h3 g hg; omega
      · obtain ⟨a, ha, rfl⟩ := hg
        obtain ⟨g, cur, rfl, hc, -⟩ := h1.row a ha
        exact absurd ((np _ h).ne ⟨cur, hc⟩) (by decide)
      · have := h1.lt hg; omega
  · refine (I.ts k h1 (by omega)).frA fV (A k h1 (by omega)) (fun g hg h => ?_)
    rcases h with h | h | h
    · exact h
    · have := C.pv _ h; omega
    · omega
  · by_cases e : k = j
    · subst e
      rw [hd]
      unfold TR
      rw [if_neg (by rw [hr]; simp)]
      have n5 : ∀ k, G ≤ k → ¬ k = d.t := fun k h1 h2 => by omega
      have hq := f5.owns S.r4.q (fun k hk => n5 k (S.r4.q.lt k hk).1)
      have hk := f5.owns S.r4.k (fun k hk => n5 k (S.r4.k.lt k hk).1)
      refine ⟨_, _, c5, c6, S.r4.q0, own_base hq (by omega), fun k hk => (hq.lt k hk).2, ?_⟩
      split
      · rfl
      · exact ⟨S.r4.k0, own_base hk (by omega), fun k h => (hk.lt k h).2⟩
    · refine (I.tr k (by omega)).fr fV ?_ (fun g h1 h2 h3 => ?_) fV.size
      · rintro (h | h | h)
        · exact (A k (by omega) e).t_ h
        · have := C.pv _ h; have := tp k (by omega); omega
        · have := tp k (by omega); omega
      · rcases h3 with h | h | h
        · omega
        · exact ⟨fun t => absurd (t.ne (np g h)) (by decide), fun t => absurd (t.ne (np g h)) (by decide)⟩
        · omega
  · rcases h with h | h | h
    · rcases (by omega : j = 0 ∨ j = 1) with e | e
      · subst e; rw [hd]; exact Or.inl h
      · subst e; rw [hd]; exact Or.inr (Or.inl h)
    · have := C.pv _ h; exact Or.inr (Or.inr (by omega))
    · exact Or.inr (Or.inr (by omega))

theorem news4 (w : World) (a b c e : Value) (t : TypeId) : ∀ j u, [a, b, c, e][j]? = some u → (w.alloc (.cells #[a, b, c, e] t)).cell? ((⟨w.heap.size, 0, none⟩ : Addr).add j) = some u := by
  intro j u hj
  match j, hj with
  | 0, hj => simp at hj; subst hj; simp [Addr.add]
  | 1, hj => simp at hj; subst hj; simp [Addr.add]
  | 2, hj => simp at hj; subst hj; simp [Addr.add]
  | 3, hj => simp at hj; subst hj; simp [Addr.add]

structure S31 (t b g n c x1 : Nat) (W : World) : Prop where
  a : W.cell? ⟨t, 6, none⟩ = some (.slice (some ⟨g, 0, none⟩) n c)
  e : W.cell? ⟨b, 0, none⟩ = some (.int .u64 x1)

/-- slices.IsSorted of what is kept. -/
theorem sorted20 (g c : Nat) (l : List Nat) (w : World) (hc : ∀ j, j < l.length → w.cell? ⟨g, j, none⟩ = some (.int .i64 ((l.getD j 0 : Nat) : Int))) (hl : l.length ≤ 512) :
    Calls Ybaf.prog 20 #[.slice (some ⟨g, 0, none⟩) l.length c] w fun e w' => ∃ bb : Bool, e = .returned (.bool bb) ∧ (bb = true ↔ ∀ i (h : i + 1 < l.length), l[i]'(by omega) ≤ l[i + 1]) ∧ ∃ q, w' = w.drewN q := by
  have hz : (l.map (fun x : Nat => (x : Int))).toArray.size = l.length := by simp
  have h := AnyO.slices_IsSorted_int Ybaf.laysIs g 0 c (l.map (fun x : Nat => (x : Int))).toArray w (fun i hi => by
    rw [hz] at hi
    rw [Nat.zero_add, hc i hi, getElem!_pos _ i (by rw [hz]; exact hi), List.getD_eq_getElem?_getD, List.getElem?_eq_getElem hi]
    simp) (by rw [hz]; omega)
  rw [hz] at h
  refine h.mono ?_
  rintro e w' ⟨rfl, q⟩
  refine ⟨_, rfl, ?_, q⟩
  rw [Lib.downOK_iff]
  have e1 : ∀ i (hi : i < l.length), (l.map (fun x : Nat => (x : Int))).toArray[i]! = (l[i] : Int) := fun i hi => by
    rw [getElem!_pos _ i (by rw [hz]; exact hi)]; simp
  constructor
  · intro h1 i h2
    have := h1 i (by omega)
    rw [e1 (i + 1) h2, e1 i (by omega)] at this
    simp only [decide_eq_false_iff_not] at this
    omega
  · intro h1 i h2
    have := h1 i (by omega)
    rw [e1 (i + 1) (by omega), e1 i (by omega)]
    simp only [decide_eq_false_iff_not]
    omega

theorem kept_iff (sk : Bool) (ps : Nat → Nat) (n : Nat) (ks : List Nat) (hk : (scn sk ps n n).ks = ks) : (¬ ks.length < n ∧ ∀ i (h : i + 1 < ks.length), ks[i]'(by omega) ≤ ks[i + 1]) ↔ ks = List.range n := by
  have e : scn sk ps n n = Sc.run sk (srt ps n) := by
    unfold scn
    rw [List.take_of_length_le (by rw [srt_len]; exact Nat.le_refl _)]
  rw [e] at hk
  subst hk
  refine (kept_full sk ps n).trans ⟨fun h => ?_, fun h => ?_⟩
  · apply List.ext_getElem
    · rw [h.1]; simp
    · intro i h1 h2
      rw [h.2 i h1]; simp
  · refine ⟨by rw [h]; simp, fun i hi => ?_⟩
    simp [h]

/-- Where the scan starts. -/
structure B3 (w wd : World) (p j lg fb fc nb nc : Nat) (dd : Nat → TD) (d : TD) (pv0 kv : Value) (gv : Nat) (Wb : World) (G : Nat) (D0 : Nat → Value) (dS : Array (Nat × Nat)) (qv : Value) (L5 : List ((Bool × Nat) × ByteArray)) : Prop where
  ix : IxR w Wb p j dd pv0
  g_ : Wb.heap.size = G
  sc : SC d Wb p G lg fb fc nb nc gv dS pv0 D0
  sx : SX d Wb wd p G pv0 pv0 kv qv L5 [] [] D0
  hL : L5.map (·.1) = prs dd j
  hl : L5.length ≤ 512 * j
  srt : dS.toList = srt d.ps d.n
end Go.Proofs.YbulkbyweFmt
