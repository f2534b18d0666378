/- Plain words on the trimming of white space. -/
import Derived.Test.YtcgpajknehhdgaaDoorP1
namespace Go.Proofs.YtcgpajknehhdgaaDoor
open Go V
set_option linter.unusedSimpArgs false
set_option linter.unusedVariables false
def blk (c : Int) : Bool := decide (c = 32 ∨ (9 ≤ c ∧ c ≤ 13))
def blkB (b : UInt8) : Bool := blk (b.toNat : Int)
def trimL (s : List UInt8) : List UInt8 := s.dropWhile blkB
def trimR (s : List UInt8) : List UInt8 := (s.reverse.dropWhile blkB).reverse
def trim (s : List UInt8) : List UInt8 := trimR (trimL s)
theorem trimL_step (s : List UInt8) (h : s ≠ []) (hb : blk (byteAt s 0) = true) : trimL (s.drop 1) = trimL s := by
  cases s with
  | nil => exact absurd rfl h
  | cons c s =>
    have e : byteAt (c :: s) 0 = (c.toNat : Int) := rfl
    rw [e] at hb
    unfold trimL
    rw [List.dropWhile_cons_of_pos (by exact hb)]; rfl
theorem trimL_stop (s : List UInt8) (hb : s = [] ∨ blk (byteAt s 0) = false) : trimL s = s := by
  cases s with
  | nil => rfl
  | cons c s =>
    have e : byteAt (c :: s) 0 = (c.toNat : Int) := rfl
    rcases hb with hb | hb
    · cases hb
    · rw [e] at hb
      unfold trimL
      exact List.dropWhile_cons_of_neg (by rw [show blkB c = false from hb]; simp)
theorem last_byte (s : List UInt8) (h : s ≠ []) : byteAt s ((s.length : Int) - 1) = ((s.getLast h).toNat : Int) := by
  have hl : 0 < s.length := List.length_pos_iff.2 h
  rw [show (s.length : Int) - 1 = ((s.length - 1 : Nat) : Int) by omega, byteAt_get s (s.length - 1) (by omega), List.getLast_eq_getElem]
theorem trimR_step (s : List UInt8) (h : s ≠ []) (hb : blk (byteAt s ((s.length : Int) - 1)) = true) : trimR (s.take (s.length - 1)) = trimR s := by
  rw [last_byte s h] at hb
  have e : s = s.dropLast ++ [s.getLast h] := (List.dropLast_concat_getLast h).symm
  rw [← List.dropLast_eq_take]
  conv => rhs; rw [e]
  unfold trimR
  rw [List.reverse_append, List.reverse_singleton, List.singleton_append, List.dropWhile_cons_of_pos (by exact hb)]
theorem trimR_stop (s : List UInt8) (hb : s = [] ∨ blk (byteAt s ((s.length : Int) - 1)) = false) : trimR s = s := by
  by_cases h : s = []
  · subst h; rfl
  · rcases hb with hb | hb
    · exact absurd hb h
    · rw [last_byte s h] at hb
      have e : s = s.dropLast ++ [s.getLast h] := (List.dropLast_concat_getLast h).symm
      have : s.reverse = s.getLast h :: s.dropLast.reverse := by conv => lhs; rw [e]
                                                                 simp
      unfold trimR
      rw [this, List.dropWhile_cons_of_neg (by rw [show blkB (s.getLast h) = false from hb]; simp), ← this, List.reverse_reverse]
end Go.Proofs.YtcgpajknehhdgaaDoor
