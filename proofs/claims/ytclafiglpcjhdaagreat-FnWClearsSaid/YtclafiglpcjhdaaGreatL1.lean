/- The walk of the splitting of a text. -/
import Derived.Test.YtclafiglpcjhdaaGreatL0
import Derived.Test.YtclafiglpcjhdaaGreatV4
namespace Go.Proofs.YtclafiglpcjhdaaGreat
open Go Go.RowKit V L0
set_option linter.unusedSimpArgs false
set_option linter.unusedVariables false
set_option maxRecDepth 10000
namespace L1


def zzsp (sep s : List UInt8) : List (List UInt8) := if sep = [] then runes s 0 else split sep s
theorem zzsp_len (s sep : List UInt8) : (zzsp sep s).length ≤ s.length + 1 := by
  unfold zzsp
  by_cases h : sep = []
  · rw [if_pos h]; have := runes_length s s.length 0 (by omega); omega
  · rw [if_neg h]; exact split_length sep h s.length s (Nat.le_refl _)
theorem own_eq {base e m : Nat} {v : Value} {A : Hp} {xs : List Value} {ls : List (List UInt8)} (h : OwS base e 1 v A m xs) (hx : xs = strsV ls) : OwS 0 e 1 v A ls.length (strsV ls) := by
  have hl := h.1
  subst hx
  simp only [strsV, List.length_map, Nat.mul_one] at hl
  subst hl
  exact h.mono (Nat.zero_le _)
theorem own_snoc {base e m : Nat} {v : Value} {A : Hp} {acc : List (List UInt8)} {x : List UInt8} (h : OwS base e 1 v A (m + 1) (strsV acc ++ [S x])) : OwS base e 1 v A (acc ++ [x]).length (strsV (acc ++ [x])) := by
  have hl := h.1
  have e1 : strsV acc ++ [S x] = strsV (acc ++ [x]) := by simp [strsV]
  rw [e1] at h hl
  simp only [strsV, List.length_map, Nat.mul_one] at hl
  rw [← hl] at h
  exact h
theorem cut_to (s : List UInt8) (i w : Nat) : cut s (i : Int) ((i + w : Nat) : Int) = (s.drop i).take w := by
  rw [show ((i + w : Nat) : Int) = (i : Int) + (w : Int) from by omega, cut_nat]
theorem cut_full (s : List UInt8) (i : Nat) : cut s (i : Int) (s.length : Int) = s.drop i := by
  unfold cut; rw [Int.toNat_natCast, Int.toNat_natCast, List.take_length]
end L1
end Go.Proofs.YtclafiglpcjhdaaGreat
