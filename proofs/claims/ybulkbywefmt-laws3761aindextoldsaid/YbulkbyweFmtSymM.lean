import Derived.Test.YbulkbyweFmtSymG
import Derived.Test.YbulkbyweFmtSrtd
namespace Go.Proofs.YbulkbyweFmt
open Go.Shelf Go.RowKit Go.Lib Go.Sort Go.Proofs

theorem symMerge45 (blk off cap n : Nat) (d0 : Array (Nat × Nat)) (w0 : World) (R : RowK encP 2 w0 blk off d0) (hn : d0.size = n) (hsz : n < 1152921504606846976) :
    ∀ (k a m b : Nat) (dk : Array (Nat × Nat)) (wk : World), b - a ≤ k → dk.size = n → SWK encP 2 w0 blk off dk wk → Runs dk a m b → a < m → m < b → b ≤ n →
      Calls Ybaf.prog 45 #[.slice (some ⟨blk, off, none⟩) n cap, .int .i64 a, .int .i64 m, .int .i64 b, .func (.func 14) #[] #[]] wk fun e w' => e = .returned (.tuple #[]) ∧ Done blk off w0 a b dk w'
  | 0, a, m, b, dk, wk, hk, _, _, _, h1, h2, _ => by omega
  | k + 1, a, m, b, dk, wk, hk, hs, S, U, h1, h2, h3 => by
    by_cases c1 : m = a + 1
    · have U' := U
      rw [c1] at U'
      have := sym_left1 blk off cap a b d0 dk w0 wk R (by omega) S U' (by omega) (by omega) (by omega) m c1
      rw [hs] at this
      exact this
    · by_cases c2 : b = m + 1
      · have := sym_right1 blk off cap a m d0 dk w0 wk R (by omega) S b U (by omega) (by omega) (by omega) c2
        rw [hs] at this
        exact this
      · have := sym_gen blk off cap a m b d0 dk w0 wk R (by omega) S U (by omega) (by omega) (by omega) (by omega)
          (fun a' m' b' d' w' h4 h5 h6 h7 h8 h9 h10 => by
            rw [hs]
            exact symMerge45 blk off cap n d0 w0 R hn hsz k a' m' b' d' w' (by omega) (by omega) h6 h7 h8 h9 (by omega))
        rw [hs] at this
        exact this

theorem sort17 (blk off cap n : Nat) (d0 : Array (Nat × Nat)) (w0 : World) (R : RowK encP 2 w0 blk off d0) (hn : d0.size = n) (hsz : n < 1152921504606846976) (hi : ∀ t, t < d0.size → (d0[t]!).2 = t) :
    Calls Ybaf.prog 17 #[.slice (some ⟨blk, off, none⟩) n cap, .func (.func 14) #[] #[]] w0 fun e w' =>
      e = .returned (.tuple #[]) ∧ Done blk off w0 0 n d0 w' :=
  sort17_of blk off cap n d0 w0 (stable_of blk off cap n d0 w0 R hn hsz hi fun a m b dk wk h1 h2 h3 h4 h5 h6 =>
    symMerge45 blk off cap n d0 w0 R hn hsz (b - a) a m b dk wk (Nat.le_refl _) h1 h2 h3 h4 h5 h6)
end Go.Proofs.YbulkbyweFmt
