import Derived.Test.YbulkbyweFmtLw1
namespace Go.Proofs.YbulkbyweFmt
open Go.Shelf Go.RowKit Go.Lib Go.Sort Go.Proofs
open Go.Extern.Stop Go.Stop Go.Extern

/-- What index is shown to do (index5). -/
def IndexSaid (F : Interp) : Prop := ∀ (w : World) (_ : F.answers w.tape) (lg fb fc nb nc ta : Nat) (dd : Nat → TD) (_ : ∀ k x, k < 2 → x < 18446744073709551616 → (tx F (hostS k) x).size ≤ 1000)
    (_ : LogAt w lg fb fc nb nc) (_ : ∀ k, k < 2 → w.cell? ⟨ta, k, none⟩ = some (.pointer (some ⟨(dd k).t, 0, none⟩))) (_ : ∀ k, k < 2 → TLo (dd k) w 0 w.heap.size) (_ : ∀ k, k < 2 → (dd k).h = k)
    (_ : Away (dd 0) (dd 1).t) (_ : Away (dd 1) (dd 0).t) (_ : ∀ k, k < 2 → lg ≠ (dd k).t ∧ fb ≠ (dd k).t ∧ nb ≠ (dd k).t ∧ ta ≠ (dd k).t),
    Calls Ybaf.prog 5 #[.pointer (some ⟨lg, 0, none⟩), .slice (some ⟨ta, 0, none⟩) 2 2] w fun e w' => ∃ pv, e = .returned pv ∧ IxR w w' w.heap.size 2 dd pv

def ddOf (d0 d1 : TD) (k : Nat) : TD := if k = 0 then d0 else d1

theorem prs2 (d0 d1 : TD) : prs (ddOf d0 d1) 2 = prd d0 ++ prd d1 := by simp [prs, List.range_succ, ddOf]

/-- What stands behind index. -/
structure Aft (w w5 : World) (d0 d1 : TD) (pv : Value) (L5 : List ((Bool × Nat) × ByteArray)) (H : Nat) : Prop where
  map : L5.map (·.1) = prd d0 ++ prd d1
  len : L5.length ≤ 1024
  row : w5.ownsRow H 51 4 pv L5.length (pcI L5)
  tr0 : TR d0 w5 H w5.heap.size
  tr1 : TR d1 w5 H w5.heap.size
  fr : Fr (fun _ => False) w w5
  n2 : d0.n ≤ 512 ∧ d1.n ≤ 512
  lt : d0.t < w5.heap.size ∧ d1.t < w5.heap.size ∧ d0.t < H ∧ d1.t < H

theorem index_at (F : Interp) (hix : IndexSaid F) (hT : ∀ k x, k < 2 → x < 18446744073709551616 → (tx F (hostS k) x).size ≤ 1000) (w w1 w2 w3 : World) (hF : F.answers w.tape) (lg fb fc nb nc : Nat) (d0 d1 : TD) (F1 : Fr (fun _ => False) w w1) (G : LogAt w1 lg fb fc nb nc)
    (T0 : TLo d0 w2 w1.heap.size w2.heap.size) (F2 : Fr (fun _ => False) w1 w2) (T1 : TLo d1 w3 w2.heap.size w3.heap.size) (F3 : Fr (fun _ => False) w2 w3) (h0 : d0.h = 0) (h1 : d1.h = 1) (hn : d0.n ≤ 512 ∧ d1.n ≤ 512) :
    Calls Ybaf.prog 5 #[.pointer (some ⟨lg, 0, none⟩), .slice (some ⟨w3.heap.size, 0, none⟩) 2 2] (w3.alloc (.cells #[.pointer (some ⟨d0.t, 0, none⟩), .pointer (some ⟨d1.t, 0, none⟩)] 39)) fun e w' => ∃ pv L5 H, e = .returned pv ∧ Aft w w' d0 d1 pv L5 H := by
  have F4 : Fr (fun _ => False) w3 (w3.alloc (.cells #[.pointer (some ⟨d0.t, 0, none⟩), .pointer (some ⟨d1.t, 0, none⟩)] 39)) := Fr.alloc _ _
  have F14 := (F2.trans F3 (Z := fun _ => False) (fun _ h => h) (fun _ _ h => h)).trans F4 (Z := fun _ => False) (fun _ h => h) (fun _ _ h => h)
  have s1 := F1.size
  have s2 := F2.size
  have s3 := F3.size
  have t0 := T0.t0
  have t1 := T1.t0
  have l1 : lg < w1.heap.size := World.block_lt_of_cell? w1 ⟨lg, 0, none⟩ G.files
  have l2 : fb < w1.heap.size := World.block_lt_of_cell? w1 ⟨fb, 0, none⟩ G.fname
  have l3 : nb < w1.heap.size := World.block_lt_of_cell? w1 ⟨nb, 0, none⟩ G.n0
  have hs : (w3.alloc (.cells #[.pointer (some ⟨d0.t, 0, none⟩), .pointer (some ⟨d1.t, 0, none⟩)] 39)).heap.size = w3.heap.size + 1 := by simp
  have c0 : (w3.alloc (.cells #[.pointer (some ⟨d0.t, 0, none⟩), .pointer (some ⟨d1.t, 0, none⟩)] 39)).cell? ⟨w3.heap.size, 0, none⟩ = some (.pointer (some ⟨d0.t, 0, none⟩)) := by simp
  have c1 : (w3.alloc (.cells #[.pointer (some ⟨d0.t, 0, none⟩), .pointer (some ⟨d1.t, 0, none⟩)] 39)).cell? ⟨w3.heap.size, 1, none⟩ = some (.pointer (some ⟨d1.t, 0, none⟩)) := by simp
  have T0' := T0.more (F3.trans F4 (Z := fun _ => False) (fun _ h => h) (fun _ _ h => h)) (N' := (w3.alloc (.cells #[.pointer (some ⟨d0.t, 0, none⟩), .pointer (some ⟨d1.t, 0, none⟩)] 39)).heap.size) (by omega)
  have T1' := T1.more F4 (N' := (w3.alloc (.cells #[.pointer (some ⟨d0.t, 0, none⟩), .pointer (some ⟨d1.t, 0, none⟩)] 39)).heap.size) (by omega)
  have W14 := F1.trans F14 (Z := fun _ => False) (fun _ h => h) (fun _ _ h => h)
  generalize w3.alloc (.cells #[.pointer (some ⟨d0.t, 0, none⟩), .pointer (some ⟨d1.t, 0, none⟩)] 39) = w4 at *
  have two : ∀ k, k < 2 → k = 0 ∨ k = 1 := fun k hk => by omega
  refine (hix w4 (by rw [W14.tape]; exact hF) lg fb fc nb nc w3.heap.size (ddOf d0 d1) hT (G.fr F14 (by simp) (by simp) (by simp)) ?_ ?_ ?_ (T0.awayUp (by have := T1.t0; simp [ddOf]; omega)) (T1.awayDn (by have := T0.t0; simp [ddOf]; omega)) ?_).mono ?_
  · intro k hk
    rcases two k hk with rfl | rfl
    · exact c0
    · exact c1
  · intro k hk
    rcases two k hk with rfl | rfl
    · exact T0'
    · exact T1'
  · intro k hk
    rcases two k hk with rfl | rfl
    · exact h0
    · exact h1
  · intro k hk
    rcases two k hk with rfl | rfl
    · simp only [ddOf, if_true]; omega
    · simp only [ddOf]; simp; omega
  · rintro e w' ⟨pv, rfl, I⟩
    obtain ⟨L5, a, b, c⟩ := I.pr
    have sz := I.fr.size
    refine ⟨pv, L5, w4.heap.size + 1, rfl, by rw [← prs2]; exact a, by omega, c, I.tr 0 (by omega), I.tr 1 (by omega), W14.trans I.fr (fun _ h => h) (fun k hk h => ?_), hn, by omega⟩
    rcases h with h | h | h
    · have : k = d0.t := h
      omega
    · have : k = d1.t := h
      omega
    · have := W14.size; omega

/-- A row of its own: nil, or a block. -/
theorem own_sl {w : World} {H e s n : Nat} {v : Value} {xs : List Value} (h : w.ownsRow H e s v n xs) : ∃ av c, v = .slice av n c ∧ ((av = none ∧ n = 0 ∧ c = 0) ∨ ∃ g, av = some ⟨g, 0, none⟩ ∧ ∀ j u, xs[j]? = some u → w.cell? ⟨g, j, none⟩ = some u) := by
  by_cases hv : v = .slice none 0 0
  · subst hv
    rcases h.2 with ⟨-, hn⟩ | ⟨g, c, cur, hc, -⟩
    · obtain ⟨rfl, -⟩ := (by simpa using hn : n = 0 ∧ True)
      exact ⟨none, 0, rfl, Or.inl ⟨rfl, rfl, rfl⟩⟩
    · cases hc
  · obtain ⟨g, c, rfl, -, hc⟩ := own_at h hv
    exact ⟨_, c, rfl, Or.inr ⟨g, rfl, hc⟩⟩

theorem pcI_get (l : List ((Bool × Nat) × ByteArray)) (i : Nat) (x : (Bool × Nat) × ByteArray) (h : l[i]? = some x) : (pcI l)[i * 4]? = some (.string ⟨#[102]⟩) ∧ (pcI l)[i * 4 + 1]? = some (.int .i64 (x.1.2 : Int)) ∧ (pcI l)[i * 4 + 2]? = some (kindS x.1.1) := by
  induction l generalizing i with
  | nil => simp at h
  | cons y ys ih =>
    have e : pcI (y :: ys) = [.string ⟨#[102]⟩, .int .i64 (y.1.2 : Int), kindS y.1.1, .string y.2] ++ pcI ys := by simp [pcI]
    rw [e]
    cases i with
    | zero => simp at h; subst h; simp
    | succ k =>
      have := ih k (by simpa using h)
      rw [show (k + 1) * 4 = k * 4 + 4 by omega, List.getElem?_append_right (by simp), List.getElem?_append_right (by simp), List.getElem?_append_right (by simp)]
      simpa using this

theorem pcM_get (l : List (Bool × Nat)) (i : Nat) (x : Bool × Nat) (h : l[i]? = some x) : (pcM l)[i * 2]? = some (kindS x.1) ∧ (pcM l)[i * 2 + 1]? = some (.int .i64 (x.2 : Int)) := by
  induction l generalizing i with
  | nil => simp at h
  | cons y ys ih =>
    have e : pcM (y :: ys) = [kindS y.1, .int .i64 (y.2 : Int)] ++ pcM ys := by simp [pcM]
    rw [e]
    cases i with
    | zero => simp at h; subst h; simp
    | succ k =>
      have := ih k (by simpa using h)
      rw [show (k + 1) * 2 = k * 2 + 2 by omega, List.getElem?_append_right (by simp), List.getElem?_append_right (by simp)]
      simpa using this

theorem pcM_append (a b : List (Bool × Nat)) : pcM (a ++ b) = pcM a ++ pcM b := by simp [pcM]
theorem pcM_len (a : List (Bool × Nat)) : (pcM a).length = a.length * 2 := by
  induction a with
  | nil => rfl
  | cons x xs ih => rw [show pcM (x :: xs) = [kindS x.1, .int .i64 (x.2 : Int)] ++ pcM xs by simp [pcM], List.length_append, ih]; simp; omega
end Go.Proofs.YbulkbyweFmt
