/- The reference of stacks, walked. -/
import Derived.Test.YtclafiglpcjhdaaGreatSA
namespace Go.Proofs.YtclafiglpcjhdaaGreat
open Go Go.RowKit V S0 S1 S2 S3 S4 S5 S6 S7 S8 SA
set_option linter.unusedSimpArgs false
set_option linter.unusedVariables false
set_option maxRecDepth 10000
namespace SB


theorem upd_rd {vs : Nat → Value} {M N : Hp} {q : Nat → List (List UInt8)} {i : Nat} {v2 : Value} {m : List (List UInt8)} (hM : ∀ j, j < 5 → RdS 1 (vs j) M (q j).length (strsV (q j))) (h2 : RdS 1 v2 (N ++ M) m.length (strsV m)) (j : Nat) (hj : j < 5) : RdS 1 (updW vs i v2 j) (N ++ M) (updW q i m j).length (strsV (updW q i m j)) := by
  by_cases e : j = i
  · rw [e, updW_at, updW_at]; exact h2
  · rw [updW_ne _ _ e, updW_ne _ _ e]
    exact (hM j hj).weaken fun x hx => List.mem_append_right _ hx
theorem upd_rdk {vs : Nat → Value} {M N : Hp} {q : Nat → List (List UInt8)} {k : Nat} {v2 : Value} (hM : ∀ j, j < k → RdS 1 (vs j) M (q j).length (strsV (q j))) (h2 : RdS 1 v2 N (q k).length (strsV (q k))) (j : Nat) (hj : j < k + 1) : RdS 1 (updW vs k v2 j) (N ++ M) (q j).length (strsV (q j)) := by
  by_cases e : j = k
  · rw [e, updW_at]; exact h2.weaken fun x hx => List.mem_append_left _ hx
  · rw [updW_ne _ _ e]
    exact (hM j (by omega)).weaken fun x hx => List.mem_append_right _ hx
end SB
end Go.Proofs.YtclafiglpcjhdaaGreat
