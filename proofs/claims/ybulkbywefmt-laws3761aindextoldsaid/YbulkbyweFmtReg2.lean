import Derived.Test.YbulkbyweFmtReg
namespace Go.Proofs.YbulkbyweFmt
open Go

section
variable {P : Program} {md : Region.Mode} {Q : Exit → Act → World → Prop}

/-- The worlds that meet S. -/
structure KeepS (S : World → Prop) where
  W : World
  h : S W

/-- What is asked ahead of a row of operations that act, with operations between that only look. -/
def chainEnd (P : Program) (ops1 ops : Array Oper) (C : World → Prop) (Q : Exit → Act → World → Prop) (o : Oper) (Lz : List Oper) : List (List Oper × List Oper) → Exit → Act → World → Prop
  | [] => fun e a w => match e with
    | .normal => C w ∧ wpQuiet P ops1 C (fun a3 => wpList P ops Q [o] a3 w) Lz a
    | e => Q e a w
  | (L, oc) :: r => fun e a w => match e with
    | .normal => C w ∧ wpQuiet P ops1 C (fun a1 => wpList P ops1 (chainEnd P ops1 ops C Q o Lz r) oc a1 w) L a
    | e => Q e a w

theorem chainEnd_else {ops1 ops : Array Oper} {C : World → Prop} {o : Oper} {Lz : List Oper} (segs : List (List Oper × List Oper)) {e : Exit} {a : Act} {w : World} (he : e ≠ .normal) (h : chainEnd P ops1 ops C Q o Lz segs e a w) : Q e a w := by
  cases segs with
  | nil => cases e <;> first | exact absurd rfl he | exact h
  | cons s r => obtain ⟨L, oc⟩ := s; cases e <;> first | exact absurd rfl he | exact h

/-- They come up so. -/
def chainB (md : Region.Mode) (ops : Array Oper) (iz : List Nat) : List (List Nat × Nat) → Array Bool → Bool
  | [], listed => takeB md ops iz listed && (Region.ready md ops (takenL iz listed)).isEmpty
  | (is, c) :: r, listed => takeB md ops is listed && decide (Region.ready md ops (takenL is listed) = [c]) && chainB md ops iz r ((takenL is listed).setIfInBounds c true)

def chainLen (iz : List Nat) : List (List Nat × Nat) → Nat
  | [] => iz.length
  | (is, _) :: r => is.length + (chainLen iz r + 1)

/-- All of them are operations that only look, but for those that act; and they are there. -/
def chainW (lh : List Oper) (iz : List Nat) (segs : List (List Nat × Nat)) : Bool :=
  segs.all (fun s => s.1.all (fun i => (lh[i]?).any plainB) && decide (s.2 < lh.length)) && iz.all (fun i => (lh[i]?).any plainB)

theorem pick_of {lh : List Oper} : ∀ (is : List Nat), is.all (fun i => (lh[i]?).any plainB) = true → is.map (fun i => lh.toArray[i]?) = (is.filterMap fun i => lh[i]?).map some ∧ (is.filterMap fun i => lh[i]?).all plainB = true
  | [], _ => ⟨rfl, rfl⟩
  | i :: r, h => by
    simp only [List.all_cons, Bool.and_eq_true] at h
    have ih := pick_of r h.2
    cases hx : lh[i]? with
    | none => rw [hx] at h; simp at h
    | some x =>
      rw [hx] at h
      simp only [Option.any_some] at h
      simp only [List.map_cons, List.filterMap_cons, hx, List.all_cons, ih.2, Bool.and_true, h.1, and_true]
      rw [ih.1]
      simp [hx]

theorem chain_any {lh : List Oper} {o : Oper} {C : World → Prop} (iz : List Nat) (hsel : Region.noSelect lh.toArray = true) (hQ : ∀ c (a : Act) d v w, Q (.panic c) (a.put d v) w → Q (.panic c) a w) (hz : iz.all (fun i => (lh[i]?).any plainB) = true) :
    ∀ (segs : List (List Nat × Nat)) (listed : Array Bool) (a : Act) (w : World), segs.all (fun s => s.1.all (fun i => (lh[i]?).any plainB) && decide (s.2 < lh.length)) = true → chainB md lh.toArray iz segs listed = true →
      chainEnd P lh.toArray (lh ++ [o]).toArray C Q o (iz.filterMap fun i => lh[i]?) (segs.map fun s => (s.1.filterMap fun i => lh[i]?, [s.2].filterMap fun i => lh[i]?)) .normal a w →
      wpAnyH P md lh.toArray (Behind P (lh ++ [o]).toArray Q o) C (chainLen iz segs) listed a w
  | [], listed, a, w, _, hB, h => by
    have hQ' : ∀ c (a : Act) d v w, Behind P (lh ++ [o]).toArray Q o (.panic c) (a.put d v) w → Behind P (lh ++ [o]).toArray Q o (.panic c) a w := fun c a d v w => hQ c a d v w
    simp only [chainB, Bool.and_eq_true, List.isEmpty_iff] at hB
    have hp := pick_of iz hz
    have := takes (f := 0) hsel hQ' h.1 iz _ listed a hp.1 hp.2 hB.1 h.2 fun a3 h4 => wpAnyH_done hB.2 h4 _
    exact this
  | (is, c) :: r, listed, a, w, hW, hB, h => by
    have hQ' : ∀ c (a : Act) d v w, Behind P (lh ++ [o]).toArray Q o (.panic c) (a.put d v) w → Behind P (lh ++ [o]).toArray Q o (.panic c) a w := fun c a d v w => hQ c a d v w
    simp only [List.all_cons, Bool.and_eq_true, decide_eq_true_eq] at hW
    simp only [chainB, Bool.and_eq_true, decide_eq_true_eq] at hB
    have hp := pick_of is hW.1.1
    obtain ⟨oc, hoc⟩ : ∃ oc, lh[c]? = some oc := ⟨lh[c], List.getElem?_eq_getElem hW.1.2⟩
    have hoc' : lh.toArray[c]? = some oc := by simpa using hoc
    have h2 := h.2
    refine takes hsel hQ' h.1 is _ listed a hp.1 hp.2 hB.1.1 h2 fun a1 ha1 => ?_
    refine wpAnyH_all hB.1.2 (by simp) fun i hi => ?_
    obtain rfl : i = c := by simpa using hi
    simp only [List.filterMap_cons, hoc, List.filterMap_nil] at ha1
    have fin : ∀ a2 w2, chainEnd P lh.toArray (lh ++ [o]).toArray C Q o (iz.filterMap fun i => lh[i]?) (r.map fun s => (s.1.filterMap fun i => lh[i]?, [s.2].filterMap fun i => lh[i]?)) .normal a2 w2 → C w2 ∧ wpAnyH P md lh.toArray (Behind P (lh ++ [o]).toArray Q o) C (chainLen iz r) ((takenL is listed).setIfInBounds i true) a2 w2 := fun a2 w2 h3 =>
      ⟨by cases r with
          | nil => exact h3.1
          | cons s r => exact h3.1, chain_any iz hsel hQ hz r _ a2 w2 hW.2 hB.2 h3⟩
    have turn : ∀ e a w, e ≠ .normal → chainEnd P lh.toArray (lh ++ [o]).toArray C Q o (iz.filterMap fun i => lh[i]?) (r.map fun s => (s.1.filterMap fun i => lh[i]?, [s.2].filterMap fun i => lh[i]?)) e a w → Behind P (lh ++ [o]).toArray Q o e a w := fun e a w he h => by
      have := chainEnd_else _ he h
      cases e <;> first | exact absurd rfl he | exact this
    unfold wpOp
    simp only [hoc']
    simp only [wpList] at ha1
    split at ha1
    · rename_i hw
      simp only [hw, if_true]
      rcases ha1 with h3 | ⟨h3, a', w', h4⟩
      · exact .inl (upon_turn turn fin h3)
      · exact .inr ⟨h3, a', w', turn _ _ _ (by simp) h4⟩
    · rename_i hw
      simp only [hw]
      exact fin _ _ ha1

/-- A REGION THAT DRAWS ITS ORDER AND HOLDS A ROW OF OPERATIONS THAT ACT, one waiting for the other, beside operations that only look, and a last one that waits for all. -/
theorem wp_region_chain {id : Nat} {a : Act} {w : World} {C : World → Prop} {l : List Oper} {o : Oper} (n : Nat) (segs : List (List Nat × Nat)) (iz : List Nat) (hm : P.follows .mixedOrders = true) (hl : l.take n ++ [o] = l)
    (hB : snocB .any (l.take n) o = true) (hsel : Region.noSelect (l.take n).toArray = true) (hW : chainW (l.take n) iz segs = true) (hC : chainB .any (l.take n).toArray iz segs (Array.replicate (l.take n).length false) = true)
    (hlen : (l.take n).length = chainLen iz segs) (hQ : ∀ c (a : Act) d v w, Q (.panic c) (a.put d v) w → Q (.panic c) a w)
    (h : chainEnd P (l.take n).toArray l.toArray C Q o (iz.filterMap fun i => (l.take n)[i]?) (segs.map fun s => (s.1.filterMap fun i => (l.take n)[i]?, [s.2].filterMap fun i => (l.take n)[i]?)) .normal a w.drew) : (Code.region id l.toArray true).wp P Q a w := by
  have h' : (Code.region id (l.take n ++ [o]).toArray true).wp P Q a w := by
    refine wp_region_snoc hm hB (wpAny_of_held (S := C) _ _ _ _ ?_)
    rw [hlen] at hC ⊢
    simp only [chainW, Bool.and_eq_true] at hW
    exact chain_any iz hsel hQ hW.2 segs _ a _ hW.1 hC (by rw [hl]; exact h)
  rw [hl] at h'
  exact h'
end
end Go.Proofs.YbulkbyweFmt
