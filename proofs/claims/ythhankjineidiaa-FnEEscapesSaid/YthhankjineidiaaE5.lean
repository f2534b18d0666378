/- Walks of the escaping of a text as a part of a URI. -/
import Derived.Test.YthhankjineidiaaB0
import Derived.Test.YthhankjineidiaaL2
import Derived.Test.YthhankjineidiaaL1
import Derived.Test.YthhankjineidiaaP0
import Derived.Test.YthhankjineidiaaProg
namespace Go.Proofs.Ythhankjineidiaa
open Go Go.RowKit V L2 L1 B0
set_option linter.unusedSimpArgs false
set_option linter.unusedVariables false
set_option maxRecDepth 10000
namespace E5
theorem call55 : Callable Try.prog 55 := ⟨_, Try.func55, rfl, by kernel_rfl⟩
theorem call62 : Callable Try.prog 62 := ⟨_, Try.func62, rfl, by kernel_rfl⟩
theorem call63 : Callable Try.prog 63 := ⟨_, Try.func63, rfl, by kernel_rfl⟩
theorem call64 : Callable Try.prog 64 := ⟨_, Try.func64, rfl, by kernel_rfl⟩
theorem flat5 : Flat Try.prog 5 := ⟨_, Try.underlying5, by simp⟩
theorem ty5 : Ty Try.prog 5 (.int .u8 0) 1 1 := ty_of (by kernel_rfl)
theorem ty77 : Ty Try.prog 77 (.agg #[(.pointer none), (.slice none 0 0)]) 2 32 := ty_of (by kernel_rfl)

def okp (c : Int) : Bool := decide ((48 ≤ c ∧ c ≤ 57) ∨ (97 ≤ c ∧ c ≤ 122) ∨ (65 ≤ c ∧ c ≤ 90) ∨ c = 45 ∨ c = 95 ∨ c = 46 ∨ c = 126)
def hexL : List UInt8 := [48, 49, 50, 51, 52, 53, 54, 55, 56, 57, 65, 66, 67, 68, 69, 70]
def hx (d : Int) : UInt8 := UInt8.ofNat (byteAt hexL d).toNat
/-- what a byte is as a part of a URI -/
def enc1 (c : Int) : List UInt8 := if okp c then [UInt8.ofNat c.toNat] else if 15 < c then [37, hx (c / 16), hx (c % 16)] else [37, hx (c % 16)]
def encB (b : UInt8) : List UInt8 := enc1 (b.toNat : Int)
def esc (s : List UInt8) : List UInt8 := s.flatMap encB
def saidB (b : UInt8) : Bool := okp (b.toNat : Int) || decide (16 ≤ (b.toNat : Int))
theorem hx_cut (d : Int) (h0 : 0 ≤ d) (h1 : d < 16) : cut hexL d (d + 1) = [hx d] := by
  obtain ⟨k, rfl⟩ := Int.eq_ofNat_of_zero_le h0
  have hk : k < 16 := by omega
  rcases k with _ | _ | _ | _ | _ | _ | _ | _ | _ | _ | _ | _ | _ | _ | _ | _ | k <;> first | rfl | omega
theorem enc1_len (c : Int) : (enc1 c).length ≤ 3 := by unfold enc1; split; · simp
                                                       · split <;> simp
theorem esc_step (s : List UInt8) (i : Nat) (h : i < s.length) : (s.drop i).flatMap encB = enc1 (byteAt s i) ++ (s.drop (i + 1)).flatMap encB := by
  rw [List.drop_eq_getElem_cons h, List.flatMap_cons, byteAt_get s i h]; rfl
theorem said_step (s : List UInt8) (i : Nat) (h : i < s.length) : (s.drop i).all saidB = ((okp (byteAt s i) || decide (16 ≤ byteAt s i)) && (s.drop (i + 1)).all saidB) := by
  rw [List.drop_eq_getElem_cons h, List.all_cons, byteAt_get s i h]; rfl
theorem esc_len (s : List UInt8) : (esc s).length ≤ 3 * s.length := by
  unfold esc
  induction s with
  | nil => simp
  | cons b s ih => rw [List.flatMap_cons, List.length_append, List.length_cons]; have : (encB b).length ≤ 3 := enc1_len _; omega
theorem byte_one (s : List UInt8) (i : Nat) (h : i < s.length) : cut s (i : Int) ((i : Int) + 1) = [UInt8.ofNat (byteAt s i).toNat] := by
  have := cut_nat s i 1
  rw [show (i : Int) + ((1 : Nat) : Int) = (i : Int) + 1 from rfl] at this
  rw [this, List.drop_eq_getElem_cons h, byteAt_get s i h, List.take_succ_cons, List.take_zero, Int.toNat_natCast, UInt8.ofNat_toNat]
theorem lies77 : liesAt Try.prog Try.prog.depth 77 (2 / Try.prog.cellsOf 77) 0 77 1 = true := by kernel_rfl
/-- given.example/pub-tinwright/pub/smithy/endpoints/private/rulesfn.validPercentEncodedChar -/
theorem vchar (c : Int) : Fn0 Try.prog 63 [.int .u8 c] (.bool (okp c)) := by
  refine Fn0.enter (n := 41) Try.func63 rfl rfl fun w0 => ?_
  refine WC.sub (fr' := [(0, _)]) ?_ ⟨rfl, trivial⟩
  refine WC.seq ?_
  refine WC.region ?_
  refine WL.q (oq_assign rfl) rfl rfl rfl ?_
  refine WL.nil ?_
  refine WE.then_normal ?_
  refine WC.sub (fr' := [(0, _)]) ?_ ⟨rfl, trivial⟩
  refine WC.seq ?_
  refine WC.region ?_
  refine WL.q (oq_move rfl) rfl rfl rfl ?_
  refine WL.q (oq_geq rfl rfl) rfl rfl rfl ?_
  refine WL.q (oq_move rfl) rfl rfl rfl ?_
  refine WL.split 5 rfl (fun s1_2 => ?_) (fun s1_2 => ?_)
  ·
    try simp only [Bool.not_eq_eq_eq_not, Bool.not_true, Bool.not_false, decide_eq_true_eq, decide_eq_false_iff_not, Int.not_lt, Int.not_le, ne_eq, Decidable.not_not, ← List.length_eq_zero_iff] at s1_2
    refine WL.q (oq_move rfl) rfl rfl rfl ?_
    refine WL.q (oq_leq rfl rfl) rfl rfl rfl ?_
    refine WL.q (oq_pick_t rfl rfl) rfl rfl rfl ?_
    refine WL.q (oq_move rfl) rfl rfl rfl ?_
    refine WL.split 9 rfl (fun s1_6 => ?_) (fun s1_6 => ?_)
    ·
      try simp only [Bool.not_eq_eq_eq_not, Bool.not_true, Bool.not_false, decide_eq_true_eq, decide_eq_false_iff_not, Int.not_lt, Int.not_le, ne_eq, Decidable.not_not, ← List.length_eq_zero_iff] at s1_6
      refine WL.skip rfl rfl rfl ?_
      refine WL.skip rfl rfl rfl ?_
      refine WL.skip rfl rfl rfl ?_
      refine WL.skip rfl rfl rfl ?_
      refine WL.skip rfl rfl rfl ?_
      refine WL.skip rfl rfl rfl ?_
      refine WL.q (oq_pick_t rfl rfl) rfl rfl rfl ?_
      refine WL.q (oq_move rfl) rfl rfl rfl ?_
      refine WL.skip rfl rfl rfl ?_
      refine WL.skip rfl rfl rfl ?_
      refine WL.skip rfl rfl rfl ?_
      refine WL.skip rfl rfl rfl ?_
      refine WL.skip rfl rfl rfl ?_
      refine WL.skip rfl rfl rfl ?_
      refine WL.q (oq_pick_t rfl rfl) rfl rfl rfl ?_
      refine WL.q (oq_move rfl) rfl rfl rfl ?_
      refine WL.skip rfl rfl rfl ?_
      refine WL.skip rfl rfl rfl ?_
      refine WL.q (oq_pick_t rfl rfl) rfl rfl rfl ?_
      refine WL.q (oq_move rfl) rfl rfl rfl ?_
      refine WL.skip rfl rfl rfl ?_
      refine WL.skip rfl rfl rfl ?_
      refine WL.q (oq_pick_t rfl rfl) rfl rfl rfl ?_
      refine WL.q (oq_move rfl) rfl rfl rfl ?_
      refine WL.skip rfl rfl rfl ?_
      refine WL.skip rfl rfl rfl ?_
      refine WL.q (oq_pick_t rfl rfl) rfl rfl rfl ?_
      refine WL.q (oq_move rfl) rfl rfl rfl ?_
      refine WL.skip rfl rfl rfl ?_
      refine WL.skip rfl rfl rfl ?_
      refine WL.q (oq_pick_t rfl rfl) rfl rfl rfl ?_
      refine WL.q (oq_assign rfl) rfl rfl rfl ?_
      refine WL.nil ?_
      refine WE.then_normal ?_
      refine WC.sub (fr' := [(2, _)]) ?_ ⟨rfl, trivial⟩
      refine WC.ret ?_
      refine WE.end0 (.inl rfl) (res1 Try.results63 rfl) ?_
      -- end 0
      unfold okp; first | exact congrArg Value.bool (decide_eq_true (by omega)).symm | exact congrArg Value.bool (decide_eq_false (by omega)).symm | (congr 1; rw [Bool.eq_iff_iff]; simp only [decide_eq_true_eq]; omega)
    ·
      try simp only [Bool.not_eq_eq_eq_not, Bool.not_true, Bool.not_false, decide_eq_true_eq, decide_eq_false_iff_not, Int.not_lt, Int.not_le, ne_eq, Decidable.not_not, ← List.length_eq_zero_iff] at s1_6
      refine WL.q (oq_move rfl) rfl rfl rfl ?_
      refine WL.q (oq_geq rfl rfl) rfl rfl rfl ?_
      refine WL.q (oq_move rfl) rfl rfl rfl ?_
      refine WL.split 12 rfl (fun s1_9 => ?_) (fun s1_9 => ?_)
      ·
        try simp only [Bool.not_eq_eq_eq_not, Bool.not_true, Bool.not_false, decide_eq_true_eq, decide_eq_false_iff_not, Int.not_lt, Int.not_le, ne_eq, Decidable.not_not, ← List.length_eq_zero_iff] at s1_9
        refine WL.q (oq_move rfl) rfl rfl rfl ?_
        refine WL.q (oq_leq rfl rfl) rfl rfl rfl ?_
        refine WL.q (oq_pick_t rfl rfl) rfl rfl rfl ?_
        refine WL.q (oq_pick_f rfl rfl) rfl rfl rfl ?_
        refine WL.q (oq_move rfl) rfl rfl rfl ?_
        refine WL.split 17 rfl (fun s1_14 => ?_) (fun s1_14 => ?_)
        ·
          try simp only [Bool.not_eq_eq_eq_not, Bool.not_true, Bool.not_false, decide_eq_true_eq, decide_eq_false_iff_not, Int.not_lt, Int.not_le, ne_eq, Decidable.not_not, ← List.length_eq_zero_iff] at s1_14
          refine WL.skip rfl rfl rfl ?_
          refine WL.skip rfl rfl rfl ?_
          refine WL.skip rfl rfl rfl ?_
          refine WL.skip rfl rfl rfl ?_
          refine WL.skip rfl rfl rfl ?_
          refine WL.skip rfl rfl rfl ?_
          refine WL.q (oq_pick_t rfl rfl) rfl rfl rfl ?_
          refine WL.q (oq_move rfl) rfl rfl rfl ?_
          refine WL.skip rfl rfl rfl ?_
          refine WL.skip rfl rfl rfl ?_
          refine WL.q (oq_pick_t rfl rfl) rfl rfl rfl ?_
          refine WL.q (oq_move rfl) rfl rfl rfl ?_
          refine WL.skip rfl rfl rfl ?_
          refine WL.skip rfl rfl rfl ?_
          refine WL.q (oq_pick_t rfl rfl) rfl rfl rfl ?_
          refine WL.q (oq_move rfl) rfl rfl rfl ?_
          refine WL.skip rfl rfl rfl ?_
          refine WL.skip rfl rfl rfl ?_
          refine WL.q (oq_pick_t rfl rfl) rfl rfl rfl ?_
          refine WL.q (oq_move rfl) rfl rfl rfl ?_
          refine WL.skip rfl rfl rfl ?_
          refine WL.skip rfl rfl rfl ?_
          refine WL.q (oq_pick_t rfl rfl) rfl rfl rfl ?_
          refine WL.q (oq_assign rfl) rfl rfl rfl ?_
          refine WL.nil ?_
          refine WE.then_normal ?_
          refine WC.sub (fr' := [(2, _)]) ?_ ⟨rfl, trivial⟩
          refine WC.ret ?_
          refine WE.end0 (.inl rfl) (res1 Try.results63 rfl) ?_
          -- end 1
          unfold okp; first | exact congrArg Value.bool (decide_eq_true (by omega)).symm | exact congrArg Value.bool (decide_eq_false (by omega)).symm | (congr 1; rw [Bool.eq_iff_iff]; simp only [decide_eq_true_eq]; omega)
        ·
          try simp only [Bool.not_eq_eq_eq_not, Bool.not_true, Bool.not_false, decide_eq_true_eq, decide_eq_false_iff_not, Int.not_lt, Int.not_le, ne_eq, Decidable.not_not, ← List.length_eq_zero_iff] at s1_14
          refine WL.q (oq_move rfl) rfl rfl rfl ?_
          refine WL.q (oq_geq rfl rfl) rfl rfl rfl ?_
          refine WL.q (oq_move rfl) rfl rfl rfl ?_
          refine WL.split 20 rfl (fun s1_17 => ?_) (fun s1_17 => ?_)
          ·
            try simp only [Bool.not_eq_eq_eq_not, Bool.not_true, Bool.not_false, decide_eq_true_eq, decide_eq_false_iff_not, Int.not_lt, Int.not_le, ne_eq, Decidable.not_not, ← List.length_eq_zero_iff] at s1_17
            refine WL.q (oq_move rfl) rfl rfl rfl ?_
            refine WL.q (oq_leq rfl rfl) rfl rfl rfl ?_
            refine WL.q (oq_pick_t rfl rfl) rfl rfl rfl ?_
            refine WL.q (oq_pick_f rfl rfl) rfl rfl rfl ?_
            refine WL.q (oq_move rfl) rfl rfl rfl ?_
            refine WL.split 25 rfl (fun s1_22 => ?_) (fun s1_22 => ?_)
            ·
              try simp only [Bool.not_eq_eq_eq_not, Bool.not_true, Bool.not_false, decide_eq_true_eq, decide_eq_false_iff_not, Int.not_lt, Int.not_le, ne_eq, Decidable.not_not, ← List.length_eq_zero_iff] at s1_22
              refine WL.skip rfl rfl rfl ?_
              refine WL.skip rfl rfl rfl ?_
              refine WL.q (oq_pick_t rfl rfl) rfl rfl rfl ?_
              refine WL.q (oq_move rfl) rfl rfl rfl ?_
              refine WL.skip rfl rfl rfl ?_
              refine WL.skip rfl rfl rfl ?_
              refine WL.q (oq_pick_t rfl rfl) rfl rfl rfl ?_
              refine WL.q (oq_move rfl) rfl rfl rfl ?_
              refine WL.skip rfl rfl rfl ?_
              refine WL.skip rfl rfl rfl ?_
              refine WL.q (oq_pick_t rfl rfl) rfl rfl rfl ?_
              refine WL.q (oq_move rfl) rfl rfl rfl ?_
              refine WL.skip rfl rfl rfl ?_
              refine WL.skip rfl rfl rfl ?_
              refine WL.q (oq_pick_t rfl rfl) rfl rfl rfl ?_
              refine WL.q (oq_assign rfl) rfl rfl rfl ?_
              refine WL.nil ?_
              refine WE.then_normal ?_
              refine WC.sub (fr' := [(2, _)]) ?_ ⟨rfl, trivial⟩
              refine WC.ret ?_
              refine WE.end0 (.inl rfl) (res1 Try.results63 rfl) ?_
              -- end 2
              unfold okp; first | exact congrArg Value.bool (decide_eq_true (by omega)).symm | exact congrArg Value.bool (decide_eq_false (by omega)).symm | (congr 1; rw [Bool.eq_iff_iff]; simp only [decide_eq_true_eq]; omega)
            ·
              try simp only [Bool.not_eq_eq_eq_not, Bool.not_true, Bool.not_false, decide_eq_true_eq, decide_eq_false_iff_not, Int.not_lt, Int.not_le, ne_eq, Decidable.not_not, ← List.length_eq_zero_iff] at s1_22
              refine WL.q (oq_move rfl) rfl rfl rfl ?_
              refine WL.q (oq_eql rfl rfl) rfl rfl rfl ?_
              refine WL.q (oq_pick_f rfl rfl) rfl rfl rfl ?_
              refine WL.q (oq_move rfl) rfl rfl rfl ?_
              refine WL.split 29 rfl (fun s1_26 => ?_) (fun s1_26 => ?_)
              ·
                try simp only [Bool.not_eq_eq_eq_not, Bool.not_true, Bool.not_false, decide_eq_true_eq, decide_eq_false_iff_not, Int.not_lt, Int.not_le, ne_eq, Decidable.not_not, ← List.length_eq_zero_iff] at s1_26
                refine WL.skip rfl rfl rfl ?_
                refine WL.skip rfl rfl rfl ?_
                refine WL.q (oq_pick_t rfl rfl) rfl rfl rfl ?_
                refine WL.q (oq_move rfl) rfl rfl rfl ?_
                refine WL.skip rfl rfl rfl ?_
                refine WL.skip rfl rfl rfl ?_
                refine WL.q (oq_pick_t rfl rfl) rfl rfl rfl ?_
                refine WL.q (oq_move rfl) rfl rfl rfl ?_
                refine WL.skip rfl rfl rfl ?_
                refine WL.skip rfl rfl rfl ?_
                refine WL.q (oq_pick_t rfl rfl) rfl rfl rfl ?_
                refine WL.q (oq_assign rfl) rfl rfl rfl ?_
                refine WL.nil ?_
                refine WE.then_normal ?_
                refine WC.sub (fr' := [(2, _)]) ?_ ⟨rfl, trivial⟩
                refine WC.ret ?_
                refine WE.end0 (.inl rfl) (res1 Try.results63 rfl) ?_
                -- end 3
                unfold okp; first | exact congrArg Value.bool (decide_eq_true (by omega)).symm | exact congrArg Value.bool (decide_eq_false (by omega)).symm | (congr 1; rw [Bool.eq_iff_iff]; simp only [decide_eq_true_eq]; omega)
              ·
                try simp only [Bool.not_eq_eq_eq_not, Bool.not_true, Bool.not_false, decide_eq_true_eq, decide_eq_false_iff_not, Int.not_lt, Int.not_le, ne_eq, Decidable.not_not, ← List.length_eq_zero_iff] at s1_26
                refine WL.q (oq_move rfl) rfl rfl rfl ?_
                refine WL.q (oq_eql rfl rfl) rfl rfl rfl ?_
                refine WL.q (oq_pick_f rfl rfl) rfl rfl rfl ?_
                refine WL.q (oq_move rfl) rfl rfl rfl ?_
                refine WL.split 33 rfl (fun s1_30 => ?_) (fun s1_30 => ?_)
                ·
                  try simp only [Bool.not_eq_eq_eq_not, Bool.not_true, Bool.not_false, decide_eq_true_eq, decide_eq_false_iff_not, Int.not_lt, Int.not_le, ne_eq, Decidable.not_not, ← List.length_eq_zero_iff] at s1_30
                  refine WL.skip rfl rfl rfl ?_
                  refine WL.skip rfl rfl rfl ?_
                  refine WL.q (oq_pick_t rfl rfl) rfl rfl rfl ?_
                  refine WL.q (oq_move rfl) rfl rfl rfl ?_
                  refine WL.skip rfl rfl rfl ?_
                  refine WL.skip rfl rfl rfl ?_
                  refine WL.q (oq_pick_t rfl rfl) rfl rfl rfl ?_
                  refine WL.q (oq_assign rfl) rfl rfl rfl ?_
                  refine WL.nil ?_
                  refine WE.then_normal ?_
                  refine WC.sub (fr' := [(2, _)]) ?_ ⟨rfl, trivial⟩
                  refine WC.ret ?_
                  refine WE.end0 (.inl rfl) (res1 Try.results63 rfl) ?_
                  -- end 4
                  unfold okp; first | exact congrArg Value.bool (decide_eq_true (by omega)).symm | exact congrArg Value.bool (decide_eq_false (by omega)).symm | (congr 1; rw [Bool.eq_iff_iff]; simp only [decide_eq_true_eq]; omega)
                ·
                  try simp only [Bool.not_eq_eq_eq_not, Bool.not_true, Bool.not_false, decide_eq_true_eq, decide_eq_false_iff_not, Int.not_lt, Int.not_le, ne_eq, Decidable.not_not, ← List.length_eq_zero_iff] at s1_30
                  refine WL.q (oq_move rfl) rfl rfl rfl ?_
                  refine WL.q (oq_eql rfl rfl) rfl rfl rfl ?_
                  refine WL.q (oq_pick_f rfl rfl) rfl rfl rfl ?_
                  refine WL.q (oq_move rfl) rfl rfl rfl ?_
                  refine WL.split 37 rfl (fun s1_34 => ?_) (fun s1_34 => ?_)
                  ·
                    try simp only [Bool.not_eq_eq_eq_not, Bool.not_true, Bool.not_false, decide_eq_true_eq, decide_eq_false_iff_not, Int.not_lt, Int.not_le, ne_eq, Decidable.not_not, ← List.length_eq_zero_iff] at s1_34
                    refine WL.skip rfl rfl rfl ?_
                    refine WL.skip rfl rfl rfl ?_
                    refine WL.q (oq_pick_t rfl rfl) rfl rfl rfl ?_
                    refine WL.q (oq_assign rfl) rfl rfl rfl ?_
                    refine WL.nil ?_
                    refine WE.then_normal ?_
                    refine WC.sub (fr' := [(2, _)]) ?_ ⟨rfl, trivial⟩
                    refine WC.ret ?_
                    refine WE.end0 (.inl rfl) (res1 Try.results63 rfl) ?_
                    -- end 5
                    unfold okp; first | exact congrArg Value.bool (decide_eq_true (by omega)).symm | exact congrArg Value.bool (decide_eq_false (by omega)).symm | (congr 1; rw [Bool.eq_iff_iff]; simp only [decide_eq_true_eq]; omega)
                  ·
                    try simp only [Bool.not_eq_eq_eq_not, Bool.not_true, Bool.not_false, decide_eq_true_eq, decide_eq_false_iff_not, Int.not_lt, Int.not_le, ne_eq, Decidable.not_not, ← List.length_eq_zero_iff] at s1_34
                    refine WL.q (oq_move rfl) rfl rfl rfl ?_
                    refine WL.q (oq_eql rfl rfl) rfl rfl rfl ?_
                    refine WL.q (oq_pick_f rfl rfl) rfl rfl rfl ?_
                    refine WL.q (oq_assign rfl) rfl rfl rfl ?_
                    refine WL.nil ?_
                    refine WE.then_normal ?_
                    refine WC.sub (fr' := [(2, _)]) ?_ ⟨rfl, trivial⟩
                    refine WC.ret ?_
                    refine WE.end0 (.inl rfl) (res1 Try.results63 rfl) ?_
                    -- end 6
                    unfold okp; first | exact congrArg Value.bool (decide_eq_true (by omega)).symm | exact congrArg Value.bool (decide_eq_false (by omega)).symm | (congr 1; rw [Bool.eq_iff_iff]; simp only [decide_eq_true_eq]; omega)
          ·
            try simp only [Bool.not_eq_eq_eq_not, Bool.not_true, Bool.not_false, decide_eq_true_eq, decide_eq_false_iff_not, Int.not_lt, Int.not_le, ne_eq, Decidable.not_not, ← List.length_eq_zero_iff] at s1_17
            refine WL.skip rfl rfl rfl ?_
            refine WL.skip rfl rfl rfl ?_
            refine WL.q (oq_pick_f rfl rfl) rfl rfl rfl ?_
            refine WL.q (oq_pick_f rfl rfl) rfl rfl rfl ?_
            refine WL.q (oq_move rfl) rfl rfl rfl ?_
            refine WL.q (oq_move rfl) rfl rfl rfl ?_
            refine WL.q (oq_eql rfl rfl) rfl rfl rfl ?_
            refine WL.q (oq_pick_f rfl rfl) rfl rfl rfl ?_
            refine WL.q (oq_move rfl) rfl rfl rfl ?_
            refine WL.split 29 rfl (fun s1_26 => ?_) (fun s1_26 => ?_)
            ·
              try simp only [Bool.not_eq_eq_eq_not, Bool.not_true, Bool.not_false, decide_eq_true_eq, decide_eq_false_iff_not, Int.not_lt, Int.not_le, ne_eq, Decidable.not_not, ← List.length_eq_zero_iff] at s1_26
              refine WL.skip rfl rfl rfl ?_
              refine WL.skip rfl rfl rfl ?_
              refine WL.q (oq_pick_t rfl rfl) rfl rfl rfl ?_
              refine WL.q (oq_move rfl) rfl rfl rfl ?_
              refine WL.skip rfl rfl rfl ?_
              refine WL.skip rfl rfl rfl ?_
              refine WL.q (oq_pick_t rfl rfl) rfl rfl rfl ?_
              refine WL.q (oq_move rfl) rfl rfl rfl ?_
              refine WL.skip rfl rfl rfl ?_
              refine WL.skip rfl rfl rfl ?_
              refine WL.q (oq_pick_t rfl rfl) rfl rfl rfl ?_
              refine WL.q (oq_assign rfl) rfl rfl rfl ?_
              refine WL.nil ?_
              refine WE.then_normal ?_
              refine WC.sub (fr' := [(2, _)]) ?_ ⟨rfl, trivial⟩
              refine WC.ret ?_
              refine WE.end0 (.inl rfl) (res1 Try.results63 rfl) ?_
              -- end 7
              unfold okp; first | exact congrArg Value.bool (decide_eq_true (by omega)).symm | exact congrArg Value.bool (decide_eq_false (by omega)).symm | (congr 1; rw [Bool.eq_iff_iff]; simp only [decide_eq_true_eq]; omega)
            ·
              try simp only [Bool.not_eq_eq_eq_not, Bool.not_true, Bool.not_false, decide_eq_true_eq, decide_eq_false_iff_not, Int.not_lt, Int.not_le, ne_eq, Decidable.not_not, ← List.length_eq_zero_iff] at s1_26
              refine WL.q (oq_move rfl) rfl rfl rfl ?_
              refine WL.q (oq_eql rfl rfl) rfl rfl rfl ?_
              refine WL.q (oq_pick_f rfl rfl) rfl rfl rfl ?_
              refine WL.q (oq_move rfl) rfl rfl rfl ?_
              refine WL.split 33 rfl (fun s1_30 => ?_) (fun s1_30 => ?_)
              ·
                try simp only [Bool.not_eq_eq_eq_not, Bool.not_true, Bool.not_false, decide_eq_true_eq, decide_eq_false_iff_not, Int.not_lt, Int.not_le, ne_eq, Decidable.not_not, ← List.length_eq_zero_iff] at s1_30
                refine WL.skip rfl rfl rfl ?_
                refine WL.skip rfl rfl rfl ?_
                refine WL.q (oq_pick_t rfl rfl) rfl rfl rfl ?_
                refine WL.q (oq_move rfl) rfl rfl rfl ?_
                refine WL.skip rfl rfl rfl ?_
                refine WL.skip rfl rfl rfl ?_
                refine WL.q (oq_pick_t rfl rfl) rfl rfl rfl ?_
                refine WL.q (oq_assign rfl) rfl rfl rfl ?_
                refine WL.nil ?_
                refine WE.then_normal ?_
                refine WC.sub (fr' := [(2, _)]) ?_ ⟨rfl, trivial⟩
                refine WC.ret ?_
                refine WE.end0 (.inl rfl) (res1 Try.results63 rfl) ?_
                -- end 8
                unfold okp; first | exact congrArg Value.bool (decide_eq_true (by omega)).symm | exact congrArg Value.bool (decide_eq_false (by omega)).symm | (congr 1; rw [Bool.eq_iff_iff]; simp only [decide_eq_true_eq]; omega)
              ·
                try simp only [Bool.not_eq_eq_eq_not, Bool.not_true, Bool.not_false, decide_eq_true_eq, decide_eq_false_iff_not, Int.not_lt, Int.not_le, ne_eq, Decidable.not_not, ← List.length_eq_zero_iff] at s1_30
                refine WL.q (oq_move rfl) rfl rfl rfl ?_
                refine WL.q (oq_eql rfl rfl) rfl rfl rfl ?_
                refine WL.q (oq_pick_f rfl rfl) rfl rfl rfl ?_
                refine WL.q (oq_move rfl) rfl rfl rfl ?_
                refine WL.split 37 rfl (fun s1_34 => ?_) (fun s1_34 => ?_)
                ·
                  try simp only [Bool.not_eq_eq_eq_not, Bool.not_true, Bool.not_false, decide_eq_true_eq, decide_eq_false_iff_not, Int.not_lt, Int.not_le, ne_eq, Decidable.not_not, ← List.length_eq_zero_iff] at s1_34
                  refine WL.skip rfl rfl rfl ?_
                  refine WL.skip rfl rfl rfl ?_
                  refine WL.q (oq_pick_t rfl rfl) rfl rfl rfl ?_
                  refine WL.q (oq_assign rfl) rfl rfl rfl ?_
                  refine WL.nil ?_
                  refine WE.then_normal ?_
                  refine WC.sub (fr' := [(2, _)]) ?_ ⟨rfl, trivial⟩
                  refine WC.ret ?_
                  refine WE.end0 (.inl rfl) (res1 Try.results63 rfl) ?_
                  -- end 9
                  unfold okp; first | exact congrArg Value.bool (decide_eq_true (by omega)).symm | exact congrArg Value.bool (decide_eq_false (by omega)).symm | (congr 1; rw [Bool.eq_iff_iff]; simp only [decide_eq_true_eq]; omega)
                ·
                  try simp only [Bool.not_eq_eq_eq_not, Bool.not_true, Bool.not_false, decide_eq_true_eq, decide_eq_false_iff_not, Int.not_lt, Int.not_le, ne_eq, Decidable.not_not, ← List.length_eq_zero_iff] at s1_34
                  refine WL.q (oq_move rfl) rfl rfl rfl ?_
                  refine WL.q (oq_eql rfl rfl) rfl rfl rfl ?_
                  refine WL.q (oq_pick_f rfl rfl) rfl rfl rfl ?_
                  refine WL.q (oq_assign rfl) rfl rfl rfl ?_
                  refine WL.nil ?_
                  refine WE.then_normal ?_
                  refine WC.sub (fr' := [(2, _)]) ?_ ⟨rfl, trivial⟩
                  refine WC.ret ?_
                  refine WE.end0 (.inl rfl) (res1 Try.results63 rfl) ?_
                  -- end 10
                  unfold okp; first | exact congrArg Value.bool (decide_eq_true (by omega)).symm | exact congrArg Value.bool (decide_eq_false (by omega)).symm | (congr 1; rw [Bool.eq_iff_iff]; simp only [decide_eq_true_eq]; omega)
      ·
        try simp only [Bool.not_eq_eq_eq_not, Bool.not_true, Bool.not_false, decide_eq_true_eq, decide_eq_false_iff_not, Int.not_lt, Int.not_le, ne_eq, Decidable.not_not, ← List.length_eq_zero_iff] at s1_9
        refine WL.skip rfl rfl rfl ?_
        refine WL.skip rfl rfl rfl ?_
        refine WL.q (oq_pick_f rfl rfl) rfl rfl rfl ?_
        refine WL.q (oq_pick_f rfl rfl) rfl rfl rfl ?_
        refine WL.q (oq_move rfl) rfl rfl rfl ?_
        refine WL.q (oq_move rfl) rfl rfl rfl ?_
        refine WL.q (oq_geq rfl rfl) rfl rfl rfl ?_
        refine WL.q (oq_move rfl) rfl rfl rfl ?_
        refine WL.split 20 rfl (fun s1_17 => ?_) (fun s1_17 => ?_)
        ·
          try simp only [Bool.not_eq_eq_eq_not, Bool.not_true, Bool.not_false, decide_eq_true_eq, decide_eq_false_iff_not, Int.not_lt, Int.not_le, ne_eq, Decidable.not_not, ← List.length_eq_zero_iff] at s1_17
          refine WL.q (oq_move rfl) rfl rfl rfl ?_
          refine WL.q (oq_leq rfl rfl) rfl rfl rfl ?_
          refine WL.q (oq_pick_t rfl rfl) rfl rfl rfl ?_
          refine WL.q (oq_pick_f rfl rfl) rfl rfl rfl ?_
          refine WL.q (oq_move rfl) rfl rfl rfl ?_
          refine WL.split 25 rfl (fun s1_22 => ?_) (fun s1_22 => ?_)
          ·
            try simp only [Bool.not_eq_eq_eq_not, Bool.not_true, Bool.not_false, decide_eq_true_eq, decide_eq_false_iff_not, Int.not_lt, Int.not_le, ne_eq, Decidable.not_not, ← List.length_eq_zero_iff] at s1_22
            refine WL.skip rfl rfl rfl ?_
            refine WL.skip rfl rfl rfl ?_
            refine WL.q (oq_pick_t rfl rfl) rfl rfl rfl ?_
            refine WL.q (oq_move rfl) rfl rfl rfl ?_
            refine WL.skip rfl rfl rfl ?_
            refine WL.skip rfl rfl rfl ?_
            refine WL.q (oq_pick_t rfl rfl) rfl rfl rfl ?_
            refine WL.q (oq_move rfl) rfl rfl rfl ?_
            refine WL.skip rfl rfl rfl ?_
            refine WL.skip rfl rfl rfl ?_
            refine WL.q (oq_pick_t rfl rfl) rfl rfl rfl ?_
            refine WL.q (oq_move rfl) rfl rfl rfl ?_
            refine WL.skip rfl rfl rfl ?_
            refine WL.skip rfl rfl rfl ?_
            refine WL.q (oq_pick_t rfl rfl) rfl rfl rfl ?_
            refine WL.q (oq_assign rfl) rfl rfl rfl ?_
            refine WL.nil ?_
            refine WE.then_normal ?_
            refine WC.sub (fr' := [(2, _)]) ?_ ⟨rfl, trivial⟩
            refine WC.ret ?_
            refine WE.end0 (.inl rfl) (res1 Try.results63 rfl) ?_
            -- end 11
            unfold okp; first | exact congrArg Value.bool (decide_eq_true (by omega)).symm | exact congrArg Value.bool (decide_eq_false (by omega)).symm | (congr 1; rw [Bool.eq_iff_iff]; simp only [decide_eq_true_eq]; omega)
          ·
            try simp only [Bool.not_eq_eq_eq_not, Bool.not_true, Bool.not_false, decide_eq_true_eq, decide_eq_false_iff_not, Int.not_lt, Int.not_le, ne_eq, Decidable.not_not, ← List.length_eq_zero_iff] at s1_22
            refine WL.q (oq_move rfl) rfl rfl rfl ?_
            refine WL.q (oq_eql rfl rfl) rfl rfl rfl ?_
            refine WL.q (oq_pick_f rfl rfl) rfl rfl rfl ?_
            refine WL.q (oq_move rfl) rfl rfl rfl ?_
            refine WL.split 29 rfl (fun s1_26 => ?_) (fun s1_26 => ?_)
            ·
              try simp only [Bool.not_eq_eq_eq_not, Bool.not_true, Bool.not_false, decide_eq_true_eq, decide_eq_false_iff_not, Int.not_lt, Int.not_le, ne_eq, Decidable.not_not, ← List.length_eq_zero_iff] at s1_26
              refine WL.skip rfl rfl rfl ?_
              refine WL.skip rfl rfl rfl ?_
              refine WL.q (oq_pick_t rfl rfl) rfl rfl rfl ?_
              refine WL.q (oq_move rfl) rfl rfl rfl ?_
              refine WL.skip rfl rfl rfl ?_
              refine WL.skip rfl rfl rfl ?_
              refine WL.q (oq_pick_t rfl rfl) rfl rfl rfl ?_
              refine WL.q (oq_move rfl) rfl rfl rfl ?_
              refine WL.skip rfl rfl rfl ?_
              refine WL.skip rfl rfl rfl ?_
              refine WL.q (oq_pick_t rfl rfl) rfl rfl rfl ?_
              refine WL.q (oq_assign rfl) rfl rfl rfl ?_
              refine WL.nil ?_
              refine WE.then_normal ?_
              refine WC.sub (fr' := [(2, _)]) ?_ ⟨rfl, trivial⟩
              refine WC.ret ?_
              refine WE.end0 (.inl rfl) (res1 Try.results63 rfl) ?_
              -- end 12
              unfold okp; first | exact congrArg Value.bool (decide_eq_true (by omega)).symm | exact congrArg Value.bool (decide_eq_false (by omega)).symm | (congr 1; rw [Bool.eq_iff_iff]; simp only [decide_eq_true_eq]; omega)
            ·
              try simp only [Bool.not_eq_eq_eq_not, Bool.not_true, Bool.not_false, decide_eq_true_eq, decide_eq_false_iff_not, Int.not_lt, Int.not_le, ne_eq, Decidable.not_not, ← List.length_eq_zero_iff] at s1_26
              refine WL.q (oq_move rfl) rfl rfl rfl ?_
              refine WL.q (oq_eql rfl rfl) rfl rfl rfl ?_
              refine WL.q (oq_pick_f rfl rfl) rfl rfl rfl ?_
              refine WL.q (oq_move rfl) rfl rfl rfl ?_
              refine WL.split 33 rfl (fun s1_30 => ?_) (fun s1_30 => ?_)
              ·
                try simp only [Bool.not_eq_eq_eq_not, Bool.not_true, Bool.not_false, decide_eq_true_eq, decide_eq_false_iff_not, Int.not_lt, Int.not_le, ne_eq, Decidable.not_not, ← List.length_eq_zero_iff] at s1_30
                refine WL.skip rfl rfl rfl ?_
                refine WL.skip rfl rfl rfl ?_
                refine WL.q (oq_pick_t rfl rfl) rfl rfl rfl ?_
                refine WL.q (oq_move rfl) rfl rfl rfl ?_
                refine WL.skip rfl rfl rfl ?_
                refine WL.skip rfl rfl rfl ?_
                refine WL.q (oq_pick_t rfl rfl) rfl rfl rfl ?_
                refine WL.q (oq_assign rfl) rfl rfl rfl ?_
                refine WL.nil ?_
                refine WE.then_normal ?_
                refine WC.sub (fr' := [(2, _)]) ?_ ⟨rfl, trivial⟩
                refine WC.ret ?_
                refine WE.end0 (.inl rfl) (res1 Try.results63 rfl) ?_
                -- end 13
                unfold okp; first | exact congrArg Value.bool (decide_eq_true (by omega)).symm | exact congrArg Value.bool (decide_eq_false (by omega)).symm | (congr 1; rw [Bool.eq_iff_iff]; simp only [decide_eq_true_eq]; omega)
              ·
                try simp only [Bool.not_eq_eq_eq_not, Bool.not_true, Bool.not_false, decide_eq_true_eq, decide_eq_false_iff_not, Int.not_lt, Int.not_le, ne_eq, Decidable.not_not, ← List.length_eq_zero_iff] at s1_30
                refine WL.q (oq_move rfl) rfl rfl rfl ?_
                refine WL.q (oq_eql rfl rfl) rfl rfl rfl ?_
                refine WL.q (oq_pick_f rfl rfl) rfl rfl rfl ?_
                refine WL.q (oq_move rfl) rfl rfl rfl ?_
                refine WL.split 37 rfl (fun s1_34 => ?_) (fun s1_34 => ?_)
                ·
                  try simp only [Bool.not_eq_eq_eq_not, Bool.not_true, Bool.not_false, decide_eq_true_eq, decide_eq_false_iff_not, Int.not_lt, Int.not_le, ne_eq, Decidable.not_not, ← List.length_eq_zero_iff] at s1_34
                  refine WL.skip rfl rfl rfl ?_
                  refine WL.skip rfl rfl rfl ?_
                  refine WL.q (oq_pick_t rfl rfl) rfl rfl rfl ?_
                  refine WL.q (oq_assign rfl) rfl rfl rfl ?_
                  refine WL.nil ?_
                  refine WE.then_normal ?_
                  refine WC.sub (fr' := [(2, _)]) ?_ ⟨rfl, trivial⟩
                  refine WC.ret ?_
                  refine WE.end0 (.inl rfl) (res1 Try.results63 rfl) ?_
                  -- end 14
                  unfold okp; first | exact congrArg Value.bool (decide_eq_true (by omega)).symm | exact congrArg Value.bool (decide_eq_false (by omega)).symm | (congr 1; rw [Bool.eq_iff_iff]; simp only [decide_eq_true_eq]; omega)
                ·
                  try simp only [Bool.not_eq_eq_eq_not, Bool.not_true, Bool.not_false, decide_eq_true_eq, decide_eq_false_iff_not, Int.not_lt, Int.not_le, ne_eq, Decidable.not_not, ← List.length_eq_zero_iff] at s1_34
                  refine WL.q (oq_move rfl) rfl rfl rfl ?_
                  refine WL.q (oq_eql rfl rfl) rfl rfl rfl ?_
                  refine WL.q (oq_pick_f rfl rfl) rfl rfl rfl ?_
                  refine WL.q (oq_assign rfl) rfl rfl rfl ?_
                  refine WL.nil ?_
                  refine WE.then_normal ?_
                  refine WC.sub (fr' := [(2, _)]) ?_ ⟨rfl, trivial⟩
                  refine WC.ret ?_
                  refine WE.end0 (.inl rfl) (res1 Try.results63 rfl) ?_
                  -- end 15
                  unfold okp; first | exact congrArg Value.bool (decide_eq_true (by omega)).symm | exact congrArg Value.bool (decide_eq_false (by omega)).symm | (congr 1; rw [Bool.eq_iff_iff]; simp only [decide_eq_true_eq]; omega)
        ·
          try simp only [Bool.not_eq_eq_eq_not, Bool.not_true, Bool.not_false, decide_eq_true_eq, decide_eq_false_iff_not, Int.not_lt, Int.not_le, ne_eq, Decidable.not_not, ← List.length_eq_zero_iff] at s1_17
          refine WL.skip rfl rfl rfl ?_
          refine WL.skip rfl rfl rfl ?_
          refine WL.q (oq_pick_f rfl rfl) rfl rfl rfl ?_
          refine WL.q (oq_pick_f rfl rfl) rfl rfl rfl ?_
          refine WL.q (oq_move rfl) rfl rfl rfl ?_
          refine WL.q (oq_move rfl) rfl rfl rfl ?_
          refine WL.q (oq_eql rfl rfl) rfl rfl rfl ?_
          refine WL.q (oq_pick_f rfl rfl) rfl rfl rfl ?_
          refine WL.q (oq_move rfl) rfl rfl rfl ?_
          refine WL.split 29 rfl (fun s1_26 => ?_) (fun s1_26 => ?_)
          ·
            try simp only [Bool.not_eq_eq_eq_not, Bool.not_true, Bool.not_false, decide_eq_true_eq, decide_eq_false_iff_not, Int.not_lt, Int.not_le, ne_eq, Decidable.not_not, ← List.length_eq_zero_iff] at s1_26
            refine WL.skip rfl rfl rfl ?_
            refine WL.skip rfl rfl rfl ?_
            refine WL.q (oq_pick_t rfl rfl) rfl rfl rfl ?_
            refine WL.q (oq_move rfl) rfl rfl rfl ?_
            refine WL.skip rfl rfl rfl ?_
            refine WL.skip rfl rfl rfl ?_
            refine WL.q (oq_pick_t rfl rfl) rfl rfl rfl ?_
            refine WL.q (oq_move rfl) rfl rfl rfl ?_
            refine WL.skip rfl rfl rfl ?_
            refine WL.skip rfl rfl rfl ?_
            refine WL.q (oq_pick_t rfl rfl) rfl rfl rfl ?_
            refine WL.q (oq_assign rfl) rfl rfl rfl ?_
            refine WL.nil ?_
            refine WE.then_normal ?_
            refine WC.sub (fr' := [(2, _)]) ?_ ⟨rfl, trivial⟩
            refine WC.ret ?_
            refine WE.end0 (.inl rfl) (res1 Try.results63 rfl) ?_
            -- end 16
            unfold okp; first | exact congrArg Value.bool (decide_eq_true (by omega)).symm | exact congrArg Value.bool (decide_eq_false (by omega)).symm | (congr 1; rw [Bool.eq_iff_iff]; simp only [decide_eq_true_eq]; omega)
          ·
            try simp only [Bool.not_eq_eq_eq_not, Bool.not_true, Bool.not_false, decide_eq_true_eq, decide_eq_false_iff_not, Int.not_lt, Int.not_le, ne_eq, Decidable.not_not, ← List.length_eq_zero_iff] at s1_26
            refine WL.q (oq_move rfl) rfl rfl rfl ?_
            refine WL.q (oq_eql rfl rfl) rfl rfl rfl ?_
            refine WL.q (oq_pick_f rfl rfl) rfl rfl rfl ?_
            refine WL.q (oq_move rfl) rfl rfl rfl ?_
            refine WL.split 33 rfl (fun s1_30 => ?_) (fun s1_30 => ?_)
            ·
              try simp only [Bool.not_eq_eq_eq_not, Bool.not_true, Bool.not_false, decide_eq_true_eq, decide_eq_false_iff_not, Int.not_lt, Int.not_le, ne_eq, Decidable.not_not, ← List.length_eq_zero_iff] at s1_30
              refine WL.skip rfl rfl rfl ?_
              refine WL.skip rfl rfl rfl ?_
              refine WL.q (oq_pick_t rfl rfl) rfl rfl rfl ?_
              refine WL.q (oq_move rfl) rfl rfl rfl ?_
              refine WL.skip rfl rfl rfl ?_
              refine WL.skip rfl rfl rfl ?_
              refine WL.q (oq_pick_t rfl rfl) rfl rfl rfl ?_
              refine WL.q (oq_assign rfl) rfl rfl rfl ?_
              refine WL.nil ?_
              refine WE.then_normal ?_
              refine WC.sub (fr' := [(2, _)]) ?_ ⟨rfl, trivial⟩
              refine WC.ret ?_
              refine WE.end0 (.inl rfl) (res1 Try.results63 rfl) ?_
              -- end 17
              unfold okp; first | exact congrArg Value.bool (decide_eq_true (by omega)).symm | exact congrArg Value.bool (decide_eq_false (by omega)).symm | (congr 1; rw [Bool.eq_iff_iff]; simp only [decide_eq_true_eq]; omega)
            ·
              try simp only [Bool.not_eq_eq_eq_not, Bool.not_true, Bool.not_false, decide_eq_true_eq, decide_eq_false_iff_not, Int.not_lt, Int.not_le, ne_eq, Decidable.not_not, ← List.length_eq_zero_iff] at s1_30
              refine WL.q (oq_move rfl) rfl rfl rfl ?_
              refine WL.q (oq_eql rfl rfl) rfl rfl rfl ?_
              refine WL.q (oq_pick_f rfl rfl) rfl rfl rfl ?_
              refine WL.q (oq_move rfl) rfl rfl rfl ?_
              refine WL.split 37 rfl (fun s1_34 => ?_) (fun s1_34 => ?_)
              ·
                try simp only [Bool.not_eq_eq_eq_not, Bool.not_true, Bool.not_false, decide_eq_true_eq, decide_eq_false_iff_not, Int.not_lt, Int.not_le, ne_eq, Decidable.not_not, ← List.length_eq_zero_iff] at s1_34
                refine WL.skip rfl rfl rfl ?_
                refine WL.skip rfl rfl rfl ?_
                refine WL.q (oq_pick_t rfl rfl) rfl rfl rfl ?_
                refine WL.q (oq_assign rfl) rfl rfl rfl ?_
                refine WL.nil ?_
                refine WE.then_normal ?_
                refine WC.sub (fr' := [(2, _)]) ?_ ⟨rfl, trivial⟩
                refine WC.ret ?_
                refine WE.end0 (.inl rfl) (res1 Try.results63 rfl) ?_
                -- end 18
                unfold okp; first | exact congrArg Value.bool (decide_eq_true (by omega)).symm | exact congrArg Value.bool (decide_eq_false (by omega)).symm | (congr 1; rw [Bool.eq_iff_iff]; simp only [decide_eq_true_eq]; omega)
              ·
                try simp only [Bool.not_eq_eq_eq_not, Bool.not_true, Bool.not_false, decide_eq_true_eq, decide_eq_false_iff_not, Int.not_lt, Int.not_le, ne_eq, Decidable.not_not, ← List.length_eq_zero_iff] at s1_34
                refine WL.q (oq_move rfl) rfl rfl rfl ?_
                refine WL.q (oq_eql rfl rfl) rfl rfl rfl ?_
                refine WL.q (oq_pick_f rfl rfl) rfl rfl rfl ?_
                refine WL.q (oq_assign rfl) rfl rfl rfl ?_
                refine WL.nil ?_
                refine WE.then_normal ?_
                refine WC.sub (fr' := [(2, _)]) ?_ ⟨rfl, trivial⟩
                refine WC.ret ?_
                refine WE.end0 (.inl rfl) (res1 Try.results63 rfl) ?_
                -- end 19
                unfold okp; first | exact congrArg Value.bool (decide_eq_true (by omega)).symm | exact congrArg Value.bool (decide_eq_false (by omega)).symm | (congr 1; rw [Bool.eq_iff_iff]; simp only [decide_eq_true_eq]; omega)
  ·
    try simp only [Bool.not_eq_eq_eq_not, Bool.not_true, Bool.not_false, decide_eq_true_eq, decide_eq_false_iff_not, Int.not_lt, Int.not_le, ne_eq, Decidable.not_not, ← List.length_eq_zero_iff] at s1_2
    refine WL.skip rfl rfl rfl ?_
    refine WL.skip rfl rfl rfl ?_
    refine WL.q (oq_pick_f rfl rfl) rfl rfl rfl ?_
    refine WL.q (oq_move rfl) rfl rfl rfl ?_
    refine WL.q (oq_move rfl) rfl rfl rfl ?_
    refine WL.q (oq_geq rfl rfl) rfl rfl rfl ?_
    refine WL.q (oq_move rfl) rfl rfl rfl ?_
    refine WL.split 12 rfl (fun s1_9 => ?_) (fun s1_9 => ?_)
    ·
      try simp only [Bool.not_eq_eq_eq_not, Bool.not_true, Bool.not_false, decide_eq_true_eq, decide_eq_false_iff_not, Int.not_lt, Int.not_le, ne_eq, Decidable.not_not, ← List.length_eq_zero_iff] at s1_9
      refine WL.q (oq_move rfl) rfl rfl rfl ?_
      refine WL.q (oq_leq rfl rfl) rfl rfl rfl ?_
      refine WL.q (oq_pick_t rfl rfl) rfl rfl rfl ?_
      refine WL.q (oq_pick_f rfl rfl) rfl rfl rfl ?_
      refine WL.q (oq_move rfl) rfl rfl rfl ?_
      refine WL.split 17 rfl (fun s1_14 => ?_) (fun s1_14 => ?_)
      ·
        try simp only [Bool.not_eq_eq_eq_not, Bool.not_true, Bool.not_false, decide_eq_true_eq, decide_eq_false_iff_not, Int.not_lt, Int.not_le, ne_eq, Decidable.not_not, ← List.length_eq_zero_iff] at s1_14
        refine WL.skip rfl rfl rfl ?_
        refine WL.skip rfl rfl rfl ?_
        refine WL.skip rfl rfl rfl ?_
        refine WL.skip rfl rfl rfl ?_
        refine WL.skip rfl rfl rfl ?_
        refine WL.skip rfl rfl rfl ?_
        refine WL.q (oq_pick_t rfl rfl) rfl rfl rfl ?_
        refine WL.q (oq_move rfl) rfl rfl rfl ?_
        refine WL.skip rfl rfl rfl ?_
        refine WL.skip rfl rfl rfl ?_
        refine WL.q (oq_pick_t rfl rfl) rfl rfl rfl ?_
        refine WL.q (oq_move rfl) rfl rfl rfl ?_
        refine WL.skip rfl rfl rfl ?_
        refine WL.skip rfl rfl rfl ?_
        refine WL.q (oq_pick_t rfl rfl) rfl rfl rfl ?_
        refine WL.q (oq_move rfl) rfl rfl rfl ?_
        refine WL.skip rfl rfl rfl ?_
        refine WL.skip rfl rfl rfl ?_
        refine WL.q (oq_pick_t rfl rfl) rfl rfl rfl ?_
        refine WL.q (oq_move rfl) rfl rfl rfl ?_
        refine WL.skip rfl rfl rfl ?_
        refine WL.skip rfl rfl rfl ?_
        refine WL.q (oq_pick_t rfl rfl) rfl rfl rfl ?_
        refine WL.q (oq_assign rfl) rfl rfl rfl ?_
        refine WL.nil ?_
        refine WE.then_normal ?_
        refine WC.sub (fr' := [(2, _)]) ?_ ⟨rfl, trivial⟩
        refine WC.ret ?_
        refine WE.end0 (.inl rfl) (res1 Try.results63 rfl) ?_
        -- end 20
        unfold okp; first | exact congrArg Value.bool (decide_eq_true (by omega)).symm | exact congrArg Value.bool (decide_eq_false (by omega)).symm | (congr 1; rw [Bool.eq_iff_iff]; simp only [decide_eq_true_eq]; omega)
      ·
        try simp only [Bool.not_eq_eq_eq_not, Bool.not_true, Bool.not_false, decide_eq_true_eq, decide_eq_false_iff_not, Int.not_lt, Int.not_le, ne_eq, Decidable.not_not, ← List.length_eq_zero_iff] at s1_14
        refine WL.q (oq_move rfl) rfl rfl rfl ?_
        refine WL.q (oq_geq rfl rfl) rfl rfl rfl ?_
        refine WL.q (oq_move rfl) rfl rfl rfl ?_
        refine WL.split 20 rfl (fun s1_17 => ?_) (fun s1_17 => ?_)
        ·
          try simp only [Bool.not_eq_eq_eq_not, Bool.not_true, Bool.not_false, decide_eq_true_eq, decide_eq_false_iff_not, Int.not_lt, Int.not_le, ne_eq, Decidable.not_not, ← List.length_eq_zero_iff] at s1_17
          refine WL.q (oq_move rfl) rfl rfl rfl ?_
          refine WL.q (oq_leq rfl rfl) rfl rfl rfl ?_
          refine WL.q (oq_pick_t rfl rfl) rfl rfl rfl ?_
          refine WL.q (oq_pick_f rfl rfl) rfl rfl rfl ?_
          refine WL.q (oq_move rfl) rfl rfl rfl ?_
          refine WL.split 25 rfl (fun s1_22 => ?_) (fun s1_22 => ?_)
          ·
            try simp only [Bool.not_eq_eq_eq_not, Bool.not_true, Bool.not_false, decide_eq_true_eq, decide_eq_false_iff_not, Int.not_lt, Int.not_le, ne_eq, Decidable.not_not, ← List.length_eq_zero_iff] at s1_22
            refine WL.skip rfl rfl rfl ?_
            refine WL.skip rfl rfl rfl ?_
            refine WL.q (oq_pick_t rfl rfl) rfl rfl rfl ?_
            refine WL.q (oq_move rfl) rfl rfl rfl ?_
            refine WL.skip rfl rfl rfl ?_
            refine WL.skip rfl rfl rfl ?_
            refine WL.q (oq_pick_t rfl rfl) rfl rfl rfl ?_
            refine WL.q (oq_move rfl) rfl rfl rfl ?_
            refine WL.skip rfl rfl rfl ?_
            refine WL.skip rfl rfl rfl ?_
            refine WL.q (oq_pick_t rfl rfl) rfl rfl rfl ?_
            refine WL.q (oq_move rfl) rfl rfl rfl ?_
            refine WL.skip rfl rfl rfl ?_
            refine WL.skip rfl rfl rfl ?_
            refine WL.q (oq_pick_t rfl rfl) rfl rfl rfl ?_
            refine WL.q (oq_assign rfl) rfl rfl rfl ?_
            refine WL.nil ?_
            refine WE.then_normal ?_
            refine WC.sub (fr' := [(2, _)]) ?_ ⟨rfl, trivial⟩
            refine WC.ret ?_
            refine WE.end0 (.inl rfl) (res1 Try.results63 rfl) ?_
            -- end 21
            unfold okp; first | exact congrArg Value.bool (decide_eq_true (by omega)).symm | exact congrArg Value.bool (decide_eq_false (by omega)).symm | (congr 1; rw [Bool.eq_iff_iff]; simp only [decide_eq_true_eq]; omega)
          ·
            try simp only [Bool.not_eq_eq_eq_not, Bool.not_true, Bool.not_false, decide_eq_true_eq, decide_eq_false_iff_not, Int.not_lt, Int.not_le, ne_eq, Decidable.not_not, ← List.length_eq_zero_iff] at s1_22
            refine WL.q (oq_move rfl) rfl rfl rfl ?_
            refine WL.q (oq_eql rfl rfl) rfl rfl rfl ?_
            refine WL.q (oq_pick_f rfl rfl) rfl rfl rfl ?_
            refine WL.q (oq_move rfl) rfl rfl rfl ?_
            refine WL.split 29 rfl (fun s1_26 => ?_) (fun s1_26 => ?_)
            ·
              try simp only [Bool.not_eq_eq_eq_not, Bool.not_true, Bool.not_false, decide_eq_true_eq, decide_eq_false_iff_not, Int.not_lt, Int.not_le, ne_eq, Decidable.not_not, ← List.length_eq_zero_iff] at s1_26
              refine WL.skip rfl rfl rfl ?_
              refine WL.skip rfl rfl rfl ?_
              refine WL.q (oq_pick_t rfl rfl) rfl rfl rfl ?_
              refine WL.q (oq_move rfl) rfl rfl rfl ?_
              refine WL.skip rfl rfl rfl ?_
              refine WL.skip rfl rfl rfl ?_
              refine WL.q (oq_pick_t rfl rfl) rfl rfl rfl ?_
              refine WL.q (oq_move rfl) rfl rfl rfl ?_
              refine WL.skip rfl rfl rfl ?_
              refine WL.skip rfl rfl rfl ?_
              refine WL.q (oq_pick_t rfl rfl) rfl rfl rfl ?_
              refine WL.q (oq_assign rfl) rfl rfl rfl ?_
              refine WL.nil ?_
              refine WE.then_normal ?_
              refine WC.sub (fr' := [(2, _)]) ?_ ⟨rfl, trivial⟩
              refine WC.ret ?_
              refine WE.end0 (.inl rfl) (res1 Try.results63 rfl) ?_
              -- end 22
              unfold okp; first | exact congrArg Value.bool (decide_eq_true (by omega)).symm | exact congrArg Value.bool (decide_eq_false (by omega)).symm | (congr 1; rw [Bool.eq_iff_iff]; simp only [decide_eq_true_eq]; omega)
            ·
              try simp only [Bool.not_eq_eq_eq_not, Bool.not_true, Bool.not_false, decide_eq_true_eq, decide_eq_false_iff_not, Int.not_lt, Int.not_le, ne_eq, Decidable.not_not, ← List.length_eq_zero_iff] at s1_26
              refine WL.q (oq_move rfl) rfl rfl rfl ?_
              refine WL.q (oq_eql rfl rfl) rfl rfl rfl ?_
              refine WL.q (oq_pick_f rfl rfl) rfl rfl rfl ?_
              refine WL.q (oq_move rfl) rfl rfl rfl ?_
              refine WL.split 33 rfl (fun s1_30 => ?_) (fun s1_30 => ?_)
              ·
                try simp only [Bool.not_eq_eq_eq_not, Bool.not_true, Bool.not_false, decide_eq_true_eq, decide_eq_false_iff_not, Int.not_lt, Int.not_le, ne_eq, Decidable.not_not, ← List.length_eq_zero_iff] at s1_30
                refine WL.skip rfl rfl rfl ?_
                refine WL.skip rfl rfl rfl ?_
                refine WL.q (oq_pick_t rfl rfl) rfl rfl rfl ?_
                refine WL.q (oq_move rfl) rfl rfl rfl ?_
                refine WL.skip rfl rfl rfl ?_
                refine WL.skip rfl rfl rfl ?_
                refine WL.q (oq_pick_t rfl rfl) rfl rfl rfl ?_
                refine WL.q (oq_assign rfl) rfl rfl rfl ?_
                refine WL.nil ?_
                refine WE.then_normal ?_
                refine WC.sub (fr' := [(2, _)]) ?_ ⟨rfl, trivial⟩
                refine WC.ret ?_
                refine WE.end0 (.inl rfl) (res1 Try.results63 rfl) ?_
                -- end 23
                unfold okp; first | exact congrArg Value.bool (decide_eq_true (by omega)).symm | exact congrArg Value.bool (decide_eq_false (by omega)).symm | (congr 1; rw [Bool.eq_iff_iff]; simp only [decide_eq_true_eq]; omega)
              ·
                try simp only [Bool.not_eq_eq_eq_not, Bool.not_true, Bool.not_false, decide_eq_true_eq, decide_eq_false_iff_not, Int.not_lt, Int.not_le, ne_eq, Decidable.not_not, ← List.length_eq_zero_iff] at s1_30
                refine WL.q (oq_move rfl) rfl rfl rfl ?_
                refine WL.q (oq_eql rfl rfl) rfl rfl rfl ?_
                refine WL.q (oq_pick_f rfl rfl) rfl rfl rfl ?_
                refine WL.q (oq_move rfl) rfl rfl rfl ?_
                refine WL.split 37 rfl (fun s1_34 => ?_) (fun s1_34 => ?_)
                ·
                  try simp only [Bool.not_eq_eq_eq_not, Bool.not_true, Bool.not_false, decide_eq_true_eq, decide_eq_false_iff_not, Int.not_lt, Int.not_le, ne_eq, Decidable.not_not, ← List.length_eq_zero_iff] at s1_34
                  refine WL.skip rfl rfl rfl ?_
                  refine WL.skip rfl rfl rfl ?_
                  refine WL.q (oq_pick_t rfl rfl) rfl rfl rfl ?_
                  refine WL.q (oq_assign rfl) rfl rfl rfl ?_
                  refine WL.nil ?_
                  refine WE.then_normal ?_
                  refine WC.sub (fr' := [(2, _)]) ?_ ⟨rfl, trivial⟩
                  refine WC.ret ?_
                  refine WE.end0 (.inl rfl) (res1 Try.results63 rfl) ?_
                  -- end 24
                  unfold okp; first | exact congrArg Value.bool (decide_eq_true (by omega)).symm | exact congrArg Value.bool (decide_eq_false (by omega)).symm | (congr 1; rw [Bool.eq_iff_iff]; simp only [decide_eq_true_eq]; omega)
                ·
                  try simp only [Bool.not_eq_eq_eq_not, Bool.not_true, Bool.not_false, decide_eq_true_eq, decide_eq_false_iff_not, Int.not_lt, Int.not_le, ne_eq, Decidable.not_not, ← List.length_eq_zero_iff] at s1_34
                  refine WL.q (oq_move rfl) rfl rfl rfl ?_
                  refine WL.q (oq_eql rfl rfl) rfl rfl rfl ?_
                  refine WL.q (oq_pick_f rfl rfl) rfl rfl rfl ?_
                  refine WL.q (oq_assign rfl) rfl rfl rfl ?_
                  refine WL.nil ?_
                  refine WE.then_normal ?_
                  refine WC.sub (fr' := [(2, _)]) ?_ ⟨rfl, trivial⟩
                  refine WC.ret ?_
                  refine WE.end0 (.inl rfl) (res1 Try.results63 rfl) ?_
                  -- end 25
                  unfold okp; first | exact congrArg Value.bool (decide_eq_true (by omega)).symm | exact congrArg Value.bool (decide_eq_false (by omega)).symm | (congr 1; rw [Bool.eq_iff_iff]; simp only [decide_eq_true_eq]; omega)
        ·
          try simp only [Bool.not_eq_eq_eq_not, Bool.not_true, Bool.not_false, decide_eq_true_eq, decide_eq_false_iff_not, Int.not_lt, Int.not_le, ne_eq, Decidable.not_not, ← List.length_eq_zero_iff] at s1_17
          refine WL.skip rfl rfl rfl ?_
          refine WL.skip rfl rfl rfl ?_
          refine WL.q (oq_pick_f rfl rfl) rfl rfl rfl ?_
          refine WL.q (oq_pick_f rfl rfl) rfl rfl rfl ?_
          refine WL.q (oq_move rfl) rfl rfl rfl ?_
          refine WL.q (oq_move rfl) rfl rfl rfl ?_
          refine WL.q (oq_eql rfl rfl) rfl rfl rfl ?_
          refine WL.q (oq_pick_f rfl rfl) rfl rfl rfl ?_
          refine WL.q (oq_move rfl) rfl rfl rfl ?_
          refine WL.split 29 rfl (fun s1_26 => ?_) (fun s1_26 => ?_)
          ·
            try simp only [Bool.not_eq_eq_eq_not, Bool.not_true, Bool.not_false, decide_eq_true_eq, decide_eq_false_iff_not, Int.not_lt, Int.not_le, ne_eq, Decidable.not_not, ← List.length_eq_zero_iff] at s1_26
            refine WL.skip rfl rfl rfl ?_
            refine WL.skip rfl rfl rfl ?_
            refine WL.q (oq_pick_t rfl rfl) rfl rfl rfl ?_
            refine WL.q (oq_move rfl) rfl rfl rfl ?_
            refine WL.skip rfl rfl rfl ?_
            refine WL.skip rfl rfl rfl ?_
            refine WL.q (oq_pick_t rfl rfl) rfl rfl rfl ?_
            refine WL.q (oq_move rfl) rfl rfl rfl ?_
            refine WL.skip rfl rfl rfl ?_
            refine WL.skip rfl rfl rfl ?_
            refine WL.q (oq_pick_t rfl rfl) rfl rfl rfl ?_
            refine WL.q (oq_assign rfl) rfl rfl rfl ?_
            refine WL.nil ?_
            refine WE.then_normal ?_
            refine WC.sub (fr' := [(2, _)]) ?_ ⟨rfl, trivial⟩
            refine WC.ret ?_
            refine WE.end0 (.inl rfl) (res1 Try.results63 rfl) ?_
            -- end 26
            unfold okp; first | exact congrArg Value.bool (decide_eq_true (by omega)).symm | exact congrArg Value.bool (decide_eq_false (by omega)).symm | (congr 1; rw [Bool.eq_iff_iff]; simp only [decide_eq_true_eq]; omega)
          ·
            try simp only [Bool.not_eq_eq_eq_not, Bool.not_true, Bool.not_false, decide_eq_true_eq, decide_eq_false_iff_not, Int.not_lt, Int.not_le, ne_eq, Decidable.not_not, ← List.length_eq_zero_iff] at s1_26
            refine WL.q (oq_move rfl) rfl rfl rfl ?_
            refine WL.q (oq_eql rfl rfl) rfl rfl rfl ?_
            refine WL.q (oq_pick_f rfl rfl) rfl rfl rfl ?_
            refine WL.q (oq_move rfl) rfl rfl rfl ?_
            refine WL.split 33 rfl (fun s1_30 => ?_) (fun s1_30 => ?_)
            ·
              try simp only [Bool.not_eq_eq_eq_not, Bool.not_true, Bool.not_false, decide_eq_true_eq, decide_eq_false_iff_not, Int.not_lt, Int.not_le, ne_eq, Decidable.not_not, ← List.length_eq_zero_iff] at s1_30
              refine WL.skip rfl rfl rfl ?_
              refine WL.skip rfl rfl rfl ?_
              refine WL.q (oq_pick_t rfl rfl) rfl rfl rfl ?_
              refine WL.q (oq_move rfl) rfl rfl rfl ?_
              refine WL.skip rfl rfl rfl ?_
              refine WL.skip rfl rfl rfl ?_
              refine WL.q (oq_pick_t rfl rfl) rfl rfl rfl ?_
              refine WL.q (oq_assign rfl) rfl rfl rfl ?_
              refine WL.nil ?_
              refine WE.then_normal ?_
              refine WC.sub (fr' := [(2, _)]) ?_ ⟨rfl, trivial⟩
              refine WC.ret ?_
              refine WE.end0 (.inl rfl) (res1 Try.results63 rfl) ?_
              -- end 27
              unfold okp; first | exact congrArg Value.bool (decide_eq_true (by omega)).symm | exact congrArg Value.bool (decide_eq_false (by omega)).symm | (congr 1; rw [Bool.eq_iff_iff]; simp only [decide_eq_true_eq]; omega)
            ·
              try simp only [Bool.not_eq_eq_eq_not, Bool.not_true, Bool.not_false, decide_eq_true_eq, decide_eq_false_iff_not, Int.not_lt, Int.not_le, ne_eq, Decidable.not_not, ← List.length_eq_zero_iff] at s1_30
              refine WL.q (oq_move rfl) rfl rfl rfl ?_
              refine WL.q (oq_eql rfl rfl) rfl rfl rfl ?_
              refine WL.q (oq_pick_f rfl rfl) rfl rfl rfl ?_
              refine WL.q (oq_move rfl) rfl rfl rfl ?_
              refine WL.split 37 rfl (fun s1_34 => ?_) (fun s1_34 => ?_)
              ·
                try simp only [Bool.not_eq_eq_eq_not, Bool.not_true, Bool.not_false, decide_eq_true_eq, decide_eq_false_iff_not, Int.not_lt, Int.not_le, ne_eq, Decidable.not_not, ← List.length_eq_zero_iff] at s1_34
                refine WL.skip rfl rfl rfl ?_
                refine WL.skip rfl rfl rfl ?_
                refine WL.q (oq_pick_t rfl rfl) rfl rfl rfl ?_
                refine WL.q (oq_assign rfl) rfl rfl rfl ?_
                refine WL.nil ?_
                refine WE.then_normal ?_
                refine WC.sub (fr' := [(2, _)]) ?_ ⟨rfl, trivial⟩
                refine WC.ret ?_
                refine WE.end0 (.inl rfl) (res1 Try.results63 rfl) ?_
                -- end 28
                unfold okp; first | exact congrArg Value.bool (decide_eq_true (by omega)).symm | exact congrArg Value.bool (decide_eq_false (by omega)).symm | (congr 1; rw [Bool.eq_iff_iff]; simp only [decide_eq_true_eq]; omega)
              ·
                try simp only [Bool.not_eq_eq_eq_not, Bool.not_true, Bool.not_false, decide_eq_true_eq, decide_eq_false_iff_not, Int.not_lt, Int.not_le, ne_eq, Decidable.not_not, ← List.length_eq_zero_iff] at s1_34
                refine WL.q (oq_move rfl) rfl rfl rfl ?_
                refine WL.q (oq_eql rfl rfl) rfl rfl rfl ?_
                refine WL.q (oq_pick_f rfl rfl) rfl rfl rfl ?_
                refine WL.q (oq_assign rfl) rfl rfl rfl ?_
                refine WL.nil ?_
                refine WE.then_normal ?_
                refine WC.sub (fr' := [(2, _)]) ?_ ⟨rfl, trivial⟩
                refine WC.ret ?_
                refine WE.end0 (.inl rfl) (res1 Try.results63 rfl) ?_
                -- end 29
                unfold okp; first | exact congrArg Value.bool (decide_eq_true (by omega)).symm | exact congrArg Value.bool (decide_eq_false (by omega)).symm | (congr 1; rw [Bool.eq_iff_iff]; simp only [decide_eq_true_eq]; omega)
    ·
      try simp only [Bool.not_eq_eq_eq_not, Bool.not_true, Bool.not_false, decide_eq_true_eq, decide_eq_false_iff_not, Int.not_lt, Int.not_le, ne_eq, Decidable.not_not, ← List.length_eq_zero_iff] at s1_9
      refine WL.skip rfl rfl rfl ?_
      refine WL.skip rfl rfl rfl ?_
      refine WL.q (oq_pick_f rfl rfl) rfl rfl rfl ?_
      refine WL.q (oq_pick_f rfl rfl) rfl rfl rfl ?_
      refine WL.q (oq_move rfl) rfl rfl rfl ?_
      refine WL.q (oq_move rfl) rfl rfl rfl ?_
      refine WL.q (oq_geq rfl rfl) rfl rfl rfl ?_
      refine WL.q (oq_move rfl) rfl rfl rfl ?_
      refine WL.split 20 rfl (fun s1_17 => ?_) (fun s1_17 => ?_)
      ·
        try simp only [Bool.not_eq_eq_eq_not, Bool.not_true, Bool.not_false, decide_eq_true_eq, decide_eq_false_iff_not, Int.not_lt, Int.not_le, ne_eq, Decidable.not_not, ← List.length_eq_zero_iff] at s1_17
        refine WL.q (oq_move rfl) rfl rfl rfl ?_
        refine WL.q (oq_leq rfl rfl) rfl rfl rfl ?_
        refine WL.q (oq_pick_t rfl rfl) rfl rfl rfl ?_
        refine WL.q (oq_pick_f rfl rfl) rfl rfl rfl ?_
        refine WL.q (oq_move rfl) rfl rfl rfl ?_
        refine WL.split 25 rfl (fun s1_22 => ?_) (fun s1_22 => ?_)
        ·
          try simp only [Bool.not_eq_eq_eq_not, Bool.not_true, Bool.not_false, decide_eq_true_eq, decide_eq_false_iff_not, Int.not_lt, Int.not_le, ne_eq, Decidable.not_not, ← List.length_eq_zero_iff] at s1_22
          refine WL.skip rfl rfl rfl ?_
          refine WL.skip rfl rfl rfl ?_
          refine WL.q (oq_pick_t rfl rfl) rfl rfl rfl ?_
          refine WL.q (oq_move rfl) rfl rfl rfl ?_
          refine WL.skip rfl rfl rfl ?_
          refine WL.skip rfl rfl rfl ?_
          refine WL.q (oq_pick_t rfl rfl) rfl rfl rfl ?_
          refine WL.q (oq_move rfl) rfl rfl rfl ?_
          refine WL.skip rfl rfl rfl ?_
          refine WL.skip rfl rfl rfl ?_
          refine WL.q (oq_pick_t rfl rfl) rfl rfl rfl ?_
          refine WL.q (oq_move rfl) rfl rfl rfl ?_
          refine WL.skip rfl rfl rfl ?_
          refine WL.skip rfl rfl rfl ?_
          refine WL.q (oq_pick_t rfl rfl) rfl rfl rfl ?_
          refine WL.q (oq_assign rfl) rfl rfl rfl ?_
          refine WL.nil ?_
          refine WE.then_normal ?_
          refine WC.sub (fr' := [(2, _)]) ?_ ⟨rfl, trivial⟩
          refine WC.ret ?_
          refine WE.end0 (.inl rfl) (res1 Try.results63 rfl) ?_
          -- end 30
          unfold okp; first | exact congrArg Value.bool (decide_eq_true (by omega)).symm | exact congrArg Value.bool (decide_eq_false (by omega)).symm | (congr 1; rw [Bool.eq_iff_iff]; simp only [decide_eq_true_eq]; omega)
        ·
          try simp only [Bool.not_eq_eq_eq_not, Bool.not_true, Bool.not_false, decide_eq_true_eq, decide_eq_false_iff_not, Int.not_lt, Int.not_le, ne_eq, Decidable.not_not, ← List.length_eq_zero_iff] at s1_22
          refine WL.q (oq_move rfl) rfl rfl rfl ?_
          refine WL.q (oq_eql rfl rfl) rfl rfl rfl ?_
          refine WL.q (oq_pick_f rfl rfl) rfl rfl rfl ?_
          refine WL.q (oq_move rfl) rfl rfl rfl ?_
          refine WL.split 29 rfl (fun s1_26 => ?_) (fun s1_26 => ?_)
          ·
            try simp only [Bool.not_eq_eq_eq_not, Bool.not_true, Bool.not_false, decide_eq_true_eq, decide_eq_false_iff_not, Int.not_lt, Int.not_le, ne_eq, Decidable.not_not, ← List.length_eq_zero_iff] at s1_26
            refine WL.skip rfl rfl rfl ?_
            refine WL.skip rfl rfl rfl ?_
            refine WL.q (oq_pick_t rfl rfl) rfl rfl rfl ?_
            refine WL.q (oq_move rfl) rfl rfl rfl ?_
            refine WL.skip rfl rfl rfl ?_
            refine WL.skip rfl rfl rfl ?_
            refine WL.q (oq_pick_t rfl rfl) rfl rfl rfl ?_
            refine WL.q (oq_move rfl) rfl rfl rfl ?_
            refine WL.skip rfl rfl rfl ?_
            refine WL.skip rfl rfl rfl ?_
            refine WL.q (oq_pick_t rfl rfl) rfl rfl rfl ?_
            refine WL.q (oq_assign rfl) rfl rfl rfl ?_
            refine WL.nil ?_
            refine WE.then_normal ?_
            refine WC.sub (fr' := [(2, _)]) ?_ ⟨rfl, trivial⟩
            refine WC.ret ?_
            refine WE.end0 (.inl rfl) (res1 Try.results63 rfl) ?_
            -- end 31
            unfold okp; first | exact congrArg Value.bool (decide_eq_true (by omega)).symm | exact congrArg Value.bool (decide_eq_false (by omega)).symm | (congr 1; rw [Bool.eq_iff_iff]; simp only [decide_eq_true_eq]; omega)
          ·
            try simp only [Bool.not_eq_eq_eq_not, Bool.not_true, Bool.not_false, decide_eq_true_eq, decide_eq_false_iff_not, Int.not_lt, Int.not_le, ne_eq, Decidable.not_not, ← List.length_eq_zero_iff] at s1_26
            refine WL.q (oq_move rfl) rfl rfl rfl ?_
            refine WL.q (oq_eql rfl rfl) rfl rfl rfl ?_
            refine WL.q (oq_pick_f rfl rfl) rfl rfl rfl ?_
            refine WL.q (oq_move rfl) rfl rfl rfl ?_
            refine WL.split 33 rfl (fun s1_30 => ?_) (fun s1_30 => ?_)
            ·
              try simp only [Bool.not_eq_eq_eq_not, Bool.not_true, Bool.not_false, decide_eq_true_eq, decide_eq_false_iff_not, Int.not_lt, Int.not_le, ne_eq, Decidable.not_not, ← List.length_eq_zero_iff] at s1_30
              refine WL.skip rfl rfl rfl ?_
              refine WL.skip rfl rfl rfl ?_
              refine WL.q (oq_pick_t rfl rfl) rfl rfl rfl ?_
              refine WL.q (oq_move rfl) rfl rfl rfl ?_
              refine WL.skip rfl rfl rfl ?_
              refine WL.skip rfl rfl rfl ?_
              refine WL.q (oq_pick_t rfl rfl) rfl rfl rfl ?_
              refine WL.q (oq_assign rfl) rfl rfl rfl ?_
              refine WL.nil ?_
              refine WE.then_normal ?_
              refine WC.sub (fr' := [(2, _)]) ?_ ⟨rfl, trivial⟩
              refine WC.ret ?_
              refine WE.end0 (.inl rfl) (res1 Try.results63 rfl) ?_
              -- end 32
              unfold okp; first | exact congrArg Value.bool (decide_eq_true (by omega)).symm | exact congrArg Value.bool (decide_eq_false (by omega)).symm | (congr 1; rw [Bool.eq_iff_iff]; simp only [decide_eq_true_eq]; omega)
            ·
              try simp only [Bool.not_eq_eq_eq_not, Bool.not_true, Bool.not_false, decide_eq_true_eq, decide_eq_false_iff_not, Int.not_lt, Int.not_le, ne_eq, Decidable.not_not, ← List.length_eq_zero_iff] at s1_30
              refine WL.q (oq_move rfl) rfl rfl rfl ?_
              refine WL.q (oq_eql rfl rfl) rfl rfl rfl ?_
              refine WL.q (oq_pick_f rfl rfl) rfl rfl rfl ?_
              refine WL.q (oq_move rfl) rfl rfl rfl ?_
              refine WL.split 37 rfl (fun s1_34 => ?_) (fun s1_34 => ?_)
              ·
                try simp only [Bool.not_eq_eq_eq_not, Bool.not_true, Bool.not_false, decide_eq_true_eq, decide_eq_false_iff_not, Int.not_lt, Int.not_le, ne_eq, Decidable.not_not, ← List.length_eq_zero_iff] at s1_34
                refine WL.skip rfl rfl rfl ?_
                refine WL.skip rfl rfl rfl ?_
                refine WL.q (oq_pick_t rfl rfl) rfl rfl rfl ?_
                refine WL.q (oq_assign rfl) rfl rfl rfl ?_
                refine WL.nil ?_
                refine WE.then_normal ?_
                refine WC.sub (fr' := [(2, _)]) ?_ ⟨rfl, trivial⟩
                refine WC.ret ?_
                refine WE.end0 (.inl rfl) (res1 Try.results63 rfl) ?_
                -- end 33
                unfold okp; first | exact congrArg Value.bool (decide_eq_true (by omega)).symm | exact congrArg Value.bool (decide_eq_false (by omega)).symm | (congr 1; rw [Bool.eq_iff_iff]; simp only [decide_eq_true_eq]; omega)
              ·
                try simp only [Bool.not_eq_eq_eq_not, Bool.not_true, Bool.not_false, decide_eq_true_eq, decide_eq_false_iff_not, Int.not_lt, Int.not_le, ne_eq, Decidable.not_not, ← List.length_eq_zero_iff] at s1_34
                refine WL.q (oq_move rfl) rfl rfl rfl ?_
                refine WL.q (oq_eql rfl rfl) rfl rfl rfl ?_
                refine WL.q (oq_pick_f rfl rfl) rfl rfl rfl ?_
                refine WL.q (oq_assign rfl) rfl rfl rfl ?_
                refine WL.nil ?_
                refine WE.then_normal ?_
                refine WC.sub (fr' := [(2, _)]) ?_ ⟨rfl, trivial⟩
                refine WC.ret ?_
                refine WE.end0 (.inl rfl) (res1 Try.results63 rfl) ?_
                -- end 34
                unfold okp; first | exact congrArg Value.bool (decide_eq_true (by omega)).symm | exact congrArg Value.bool (decide_eq_false (by omega)).symm | (congr 1; rw [Bool.eq_iff_iff]; simp only [decide_eq_true_eq]; omega)
      ·
        try simp only [Bool.not_eq_eq_eq_not, Bool.not_true, Bool.not_false, decide_eq_true_eq, decide_eq_false_iff_not, Int.not_lt, Int.not_le, ne_eq, Decidable.not_not, ← List.length_eq_zero_iff] at s1_17
        refine WL.skip rfl rfl rfl ?_
        refine WL.skip rfl rfl rfl ?_
        refine WL.q (oq_pick_f rfl rfl) rfl rfl rfl ?_
        refine WL.q (oq_pick_f rfl rfl) rfl rfl rfl ?_
        refine WL.q (oq_move rfl) rfl rfl rfl ?_
        refine WL.q (oq_move rfl) rfl rfl rfl ?_
        refine WL.q (oq_eql rfl rfl) rfl rfl rfl ?_
        refine WL.q (oq_pick_f rfl rfl) rfl rfl rfl ?_
        refine WL.q (oq_move rfl) rfl rfl rfl ?_
        refine WL.split 29 rfl (fun s1_26 => ?_) (fun s1_26 => ?_)
        ·
          try simp only [Bool.not_eq_eq_eq_not, Bool.not_true, Bool.not_false, decide_eq_true_eq, decide_eq_false_iff_not, Int.not_lt, Int.not_le, ne_eq, Decidable.not_not, ← List.length_eq_zero_iff] at s1_26
          refine WL.skip rfl rfl rfl ?_
          refine WL.skip rfl rfl rfl ?_
          refine WL.q (oq_pick_t rfl rfl) rfl rfl rfl ?_
          refine WL.q (oq_move rfl) rfl rfl rfl ?_
          refine WL.skip rfl rfl rfl ?_
          refine WL.skip rfl rfl rfl ?_
          refine WL.q (oq_pick_t rfl rfl) rfl rfl rfl ?_
          refine WL.q (oq_move rfl) rfl rfl rfl ?_
          refine WL.skip rfl rfl rfl ?_
          refine WL.skip rfl rfl rfl ?_
          refine WL.q (oq_pick_t rfl rfl) rfl rfl rfl ?_
          refine WL.q (oq_assign rfl) rfl rfl rfl ?_
          refine WL.nil ?_
          refine WE.then_normal ?_
          refine WC.sub (fr' := [(2, _)]) ?_ ⟨rfl, trivial⟩
          refine WC.ret ?_
          refine WE.end0 (.inl rfl) (res1 Try.results63 rfl) ?_
          -- end 35
          unfold okp; first | exact congrArg Value.bool (decide_eq_true (by omega)).symm | exact congrArg Value.bool (decide_eq_false (by omega)).symm | (congr 1; rw [Bool.eq_iff_iff]; simp only [decide_eq_true_eq]; omega)
        ·
          try simp only [Bool.not_eq_eq_eq_not, Bool.not_true, Bool.not_false, decide_eq_true_eq, decide_eq_false_iff_not, Int.not_lt, Int.not_le, ne_eq, Decidable.not_not, ← List.length_eq_zero_iff] at s1_26
          refine WL.q (oq_move rfl) rfl rfl rfl ?_
          refine WL.q (oq_eql rfl rfl) rfl rfl rfl ?_
          refine WL.q (oq_pick_f rfl rfl) rfl rfl rfl ?_
          refine WL.q (oq_move rfl) rfl rfl rfl ?_
          refine WL.split 33 rfl (fun s1_30 => ?_) (fun s1_30 => ?_)
          ·
            try simp only [Bool.not_eq_eq_eq_not, Bool.not_true, Bool.not_false, decide_eq_true_eq, decide_eq_false_iff_not, Int.not_lt, Int.not_le, ne_eq, Decidable.not_not, ← List.length_eq_zero_iff] at s1_30
            refine WL.skip rfl rfl rfl ?_
            refine WL.skip rfl rfl rfl ?_
            refine WL.q (oq_pick_t rfl rfl) rfl rfl rfl ?_
            refine WL.q (oq_move rfl) rfl rfl rfl ?_
            refine WL.skip rfl rfl rfl ?_
            refine WL.skip rfl rfl rfl ?_
            refine WL.q (oq_pick_t rfl rfl) rfl rfl rfl ?_
            refine WL.q (oq_assign rfl) rfl rfl rfl ?_
            refine WL.nil ?_
            refine WE.then_normal ?_
            refine WC.sub (fr' := [(2, _)]) ?_ ⟨rfl, trivial⟩
            refine WC.ret ?_
            refine WE.end0 (.inl rfl) (res1 Try.results63 rfl) ?_
            -- end 36
            unfold okp; first | exact congrArg Value.bool (decide_eq_true (by omega)).symm | exact congrArg Value.bool (decide_eq_false (by omega)).symm | (congr 1; rw [Bool.eq_iff_iff]; simp only [decide_eq_true_eq]; omega)
          ·
            try simp only [Bool.not_eq_eq_eq_not, Bool.not_true, Bool.not_false, decide_eq_true_eq, decide_eq_false_iff_not, Int.not_lt, Int.not_le, ne_eq, Decidable.not_not, ← List.length_eq_zero_iff] at s1_30
            refine WL.q (oq_move rfl) rfl rfl rfl ?_
            refine WL.q (oq_eql rfl rfl) rfl rfl rfl ?_
            refine WL.q (oq_pick_f rfl rfl) rfl rfl rfl ?_
            refine WL.q (oq_move rfl) rfl rfl rfl ?_
            refine WL.split 37 rfl (fun s1_34 => ?_) (fun s1_34 => ?_)
            ·
              try simp only [Bool.not_eq_eq_eq_not, Bool.not_true, Bool.not_false, decide_eq_true_eq, decide_eq_false_iff_not, Int.not_lt, Int.not_le, ne_eq, Decidable.not_not, ← List.length_eq_zero_iff] at s1_34
              refine WL.skip rfl rfl rfl ?_
              refine WL.skip rfl rfl rfl ?_
              refine WL.q (oq_pick_t rfl rfl) rfl rfl rfl ?_
              refine WL.q (oq_assign rfl) rfl rfl rfl ?_
              refine WL.nil ?_
              refine WE.then_normal ?_
              refine WC.sub (fr' := [(2, _)]) ?_ ⟨rfl, trivial⟩
              refine WC.ret ?_
              refine WE.end0 (.inl rfl) (res1 Try.results63 rfl) ?_
              -- end 37
              unfold okp; first | exact congrArg Value.bool (decide_eq_true (by omega)).symm | exact congrArg Value.bool (decide_eq_false (by omega)).symm | (congr 1; rw [Bool.eq_iff_iff]; simp only [decide_eq_true_eq]; omega)
            ·
              try simp only [Bool.not_eq_eq_eq_not, Bool.not_true, Bool.not_false, decide_eq_true_eq, decide_eq_false_iff_not, Int.not_lt, Int.not_le, ne_eq, Decidable.not_not, ← List.length_eq_zero_iff] at s1_34
              refine WL.q (oq_move rfl) rfl rfl rfl ?_
              refine WL.q (oq_eql rfl rfl) rfl rfl rfl ?_
              refine WL.q (oq_pick_f rfl rfl) rfl rfl rfl ?_
              refine WL.q (oq_assign rfl) rfl rfl rfl ?_
              refine WL.nil ?_
              refine WE.then_normal ?_
              refine WC.sub (fr' := [(2, _)]) ?_ ⟨rfl, trivial⟩
              refine WC.ret ?_
              refine WE.end0 (.inl rfl) (res1 Try.results63 rfl) ?_
              -- end 38
              unfold okp; first | exact congrArg Value.bool (decide_eq_true (by omega)).symm | exact congrArg Value.bool (decide_eq_false (by omega)).symm | (congr 1; rw [Bool.eq_iff_iff]; simp only [decide_eq_true_eq]; omega)

/-- given.example/pub-tinwright/pub/smithy/endpoints/private/rulesfn.URIEncode -/
theorem uriEncode (s : List UInt8) (hs : s.length ≤ 2147483647) : Fn0 Try.prog 55 [S s] (S (esc s)) := by
  refine Fn0.enter (n := 30) Try.func55 rfl rfl fun w0 => ?_
  refine WC.sub (fr' := [(0, _)]) ?_ ⟨rfl, trivial⟩
  refine WC.seq ?_
  refine WC.region ?_
  refine WL.q (oq_assign rfl) rfl rfl rfl ?_
  refine WL.nil ?_
  refine WE.then_normal ?_
  refine WC.sub (fr' := [(0, _)]) ?_ ⟨rfl, trivial⟩
  refine WC.seq ?_
  refine WC.region ?_
  refine WL.alloc ty77 rfl rfl fun b hb => ?_
  refine WL.nil ?_
  refine WE.then_normal ?_
  refine WC.sub (fr' := [(0, _), (3, _)]) ?_ ⟨rfl, rfl, trivial⟩
  refine WC.seq ?_
  refine WC.seq ?_
  refine WC.add0 ?_
  refine WC.region ?_
  refine WL.q (oq_move rfl) rfl rfl rfl ?_
  refine WL.toBytes Try.underlying9 Try.underlying75 Try.underlying5 rfl (by unfold maxLen; omega) rfl rfl fun v2_1 A2_1 hr2_1 hA2_1 => ?_
  refine WL.q (oq_len_rd hr2_1 Try.underlying75 rfl) rfl rfl rfl ?_
  refine WL.q (oq_move rfl) rfl rfl rfl ?_
  refine WL.nil ?_
  refine WE.then_normal ?_
  refine WC.sub (fr' := [(3, _), (7, _), (8, _), (9, _)]) ?_ ⟨rfl, rfl, rfl, rfl, trivial⟩
  refine WC.block ?_
  refine WC.f1 ?_
  refine WC.f2 ?_
  refine WC.loop (ι := Nat × Value × Value × Hp × (List UInt8)) (fun i_ => (fun (i : Nat) (p : Value) (v : Value) (A : Hp) (l : List UInt8) => [(3, Pt b 0), (7, v2_1), (8, I (s.length : Int)), (9, I (i : Int))]) i_.1 i_.2.1 i_.2.2.1 i_.2.2.2.1 i_.2.2.2.2) (fun i_ => (fun (i : Nat) (p : Value) (v : Value) (A : Hp) (l : List UInt8) => [[(b, .cells #[p, v] 77 (0, 0))], A, A2_1]) i_.1 i_.2.1 i_.2.2.1 i_.2.2.2.1 i_.2.2.2.2) (fun i_ => (fun (i : Nat) (p : Value) (v : Value) (A : Hp) (l : List UInt8) => i ≤ s.length ∧ Own b p ∧ BufS w0.heap.size 5 v A l ∧ l.length ≤ 3 * i ∧ l ++ (s.drop i).flatMap encB = esc s) i_.1 i_.2.1 i_.2.2.1 i_.2.2.2.1 i_.2.2.2.2) (fun i_ => (fun (i : Nat) (p : Value) (v : Value) (A : Hp) (l : List UInt8) => s.length - i) i_.1 i_.2.1 i_.2.2.1 i_.2.2.2.1 i_.2.2.2.2) ((0, _, _, _, [])) ?_ ⟨rfl, rfl, rfl, rfl, trivial⟩ (List.Perm.refl _) ?_
  · try dsimp only
    exact ⟨by omega, .inl rfl, BufS.nil _ _, by simp, rfl⟩
  · rintro ⟨i, p, v, A, l⟩ hp
    try dsimp only at hp
    obtain ⟨hi, hp, hbf, hl, hf⟩ := hp
    show WC _ _ _ _ _ _ ([(3, Pt b 0), (7, v2_1), (8, I (s.length : Int)), (9, I (i : Int))]) ([[(b, .cells #[p, v] 77 (0, 0))], A, A2_1])
    refine WC.seq ?_
    refine WC.region ?_
    refine WL.q (oq_lss rfl rfl) rfl rfl rfl ?_
    refine WL.nil ?_
    refine WE.then_normal ?_
    refine WC.sub (fr' := [(3, _), (7, _), (8, _), (9, _), (10, _)]) ?_ ⟨rfl, rfl, rfl, rfl, rfl, trivial⟩
    refine WC.seq ?_
    refine WC.cond rfl (fun q3 => ?_) (fun q3 => ?_)
    ·
      try simp only [Bool.not_eq_eq_eq_not, Bool.not_true, Bool.not_false, decide_eq_true_eq, decide_eq_false_iff_not, Int.not_lt, Int.not_le, ne_eq, Decidable.not_not, ← List.length_eq_zero_iff] at q3
      refine WC.skip ?_
      refine WE.then_normal ?_
      refine WC.sub (fr' := [(3, _), (7, _), (8, _), (9, _)]) ?_ ⟨rfl, rfl, rfl, rfl, trivial⟩
      refine WC.seq ?_
      refine WC.block ?_
      refine WC.seq ?_
      refine WC.region ?_
      refine WL.q (oq_ixaddr hr2_1 Try.underlying75 ty5 rfl rfl (by (first | omega | (simp only [List.length_cons, List.length_nil, List.length_append, List.length_drop, List.length_take]; omega)))) rfl rfl rfl ?_
      refine WL.load_byte hr2_1 (.tail _ (.tail _ (.head _))) flat5 rfl (by (first | omega | (simp only [List.length_cons, List.length_nil, List.length_append, List.length_drop, List.length_take]; omega))) rfl rfl fun c4_1 hc4_1 hc4_1l hc4_1u => ?_
      refine WL.q (oq_assign rfl) rfl rfl rfl ?_
      refine WL.nil ?_
      refine WE.then_normal ?_
      refine WC.sub (fr' := [(3, _), (5, _), (7, _), (8, _), (9, _)]) ?_ ⟨rfl, rfl, rfl, rfl, rfl, trivial⟩
      refine WC.seq ?_
      refine WC.seq ?_
      refine WC.region ?_
      refine WL.q (oq_move rfl) rfl rfl rfl ?_
      refine WL.qc (oq_call (vchar _) call63 rfl) rfl rfl rfl ?_
      refine WL.nil ?_
      refine WE.then_normal ?_
      refine WC.sub (fr' := [(3, _), (5, _), (7, _), (8, _), (9, _), (14, _)]) ?_ ⟨rfl, rfl, rfl, rfl, rfl, rfl, trivial⟩
      refine WC.cond rfl (fun q5 => ?_) (fun q5 => ?_)
      ·
        try simp only [Bool.not_eq_eq_eq_not, Bool.not_true, Bool.not_false, decide_eq_true_eq, decide_eq_false_iff_not, Int.not_lt, Int.not_le, ne_eq, Decidable.not_not, ← List.length_eq_zero_iff] at q5
        refine WC.seq ?_
        refine WC.region ?_
        refine WL.q (oq_move rfl) rfl rfl rfl ?_
        refine WL.f1 ?_
        refine WL.f1 ?_
        refine WL.callW2 (B0.writeByte _ b 77 _ _ _ _ hp lies77 hbf c4_1 hc4_1l hc4_1u (by first | omega | (simp only [List.length_append, List.length_cons, List.length_nil]; omega))) call64 rfl rfl rfl fun v6_1 Hs6_1 hR6_1 => ?_
        obtain ⟨x6_1, A6_1, rfl, rfl, hb6_1⟩ := hR6_1
        refine WL.to2 ?_
        refine WL.nil ?_
        refine WE.then_normal ?_
        refine WC.sub (fr' := [(3, _), (7, _), (8, _), (9, _)]) ?_ ⟨rfl, rfl, rfl, rfl, trivial⟩
        refine WC.exit ?_
        refine WE.then_exit ?_
        refine WE.block_same ?_
        refine WE.then_normal ?_
        refine WC.sub (fr' := [(3, _), (7, _), (8, _), (9, _)]) ?_ ⟨rfl, rfl, rfl, rfl, trivial⟩
        refine WC.region ?_
        refine WL.q (oq_add rfl rfl (by rw [i64_lo, i64_hi]; (first | omega | (simp only [List.length_cons, List.length_nil, List.length_append, List.length_drop, List.length_take]; omega)))) rfl rfl rfl ?_
        refine WL.q (oq_move rfl) rfl rfl rfl ?_
        refine WL.nil ?_
        refine WE.again (i + 1, _, _, _, l ++ [UInt8.ofNat c4_1.toNat]) ?_ ?_ ⟨rfl, rfl, rfl, rfl, trivial⟩ (List.Perm.refl _)
        · try dsimp only   -- again 0
          have he : enc1 (byteAt s i) = [UInt8.ofNat c4_1.toNat] := by unfold enc1; rw [← hc4_1, if_pos q5]
          exact ⟨by omega, .inr rfl, hb6_1, by simp; omega, by rw [← hf, esc_step s i (by omega), he, List.append_assoc]⟩
        · (try dsimp only); omega
      ·
        try simp only [Bool.not_eq_eq_eq_not, Bool.not_true, Bool.not_false, decide_eq_true_eq, decide_eq_false_iff_not, Int.not_lt, Int.not_le, ne_eq, Decidable.not_not, ← List.length_eq_zero_iff] at q5
        refine WC.skip ?_
        refine WE.then_normal ?_
        refine WC.sub (fr' := [(3, _), (5, _), (7, _), (8, _), (9, _)]) ?_ ⟨rfl, rfl, rfl, rfl, rfl, trivial⟩
        refine WC.seq ?_
        refine WC.region ?_
        refine WL.f1 ?_
        refine WL.f1 ?_
        refine WL.callW2 (B0.writeByte _ b 77 _ _ _ _ hp lies77 hbf 37 (by decide) (by decide) (by first | omega | (simp only [List.length_append, List.length_cons, List.length_nil]; omega))) call64 rfl rfl rfl fun v7_0 Hs7_0 hR7_0 => ?_
        obtain ⟨x7_0, A7_0, rfl, rfl, hb7_0⟩ := hR7_0
        refine WL.to2 ?_
        refine WL.nil ?_
        refine WE.then_normal ?_
        refine WC.sub (fr' := [(3, _), (5, _), (7, _), (8, _), (9, _)]) ?_ ⟨rfl, rfl, rfl, rfl, rfl, trivial⟩
        refine WC.seq ?_
        refine WC.seq ?_
        refine WC.region ?_
        refine WL.q (oq_move rfl) rfl rfl rfl ?_
        refine WL.q (oq_gtr rfl rfl) rfl rfl rfl ?_
        refine WL.nil ?_
        refine WE.then_normal ?_
        refine WC.sub (fr' := [(3, _), (5, _), (7, _), (8, _), (9, _), (19, _)]) ?_ ⟨rfl, rfl, rfl, rfl, rfl, rfl, trivial⟩
        refine WC.cond rfl (fun q8 => ?_) (fun q8 => ?_)
        ·
          try simp only [Bool.not_eq_eq_eq_not, Bool.not_true, Bool.not_false, decide_eq_true_eq, decide_eq_false_iff_not, Int.not_lt, Int.not_le, ne_eq, Decidable.not_not, ← List.length_eq_zero_iff] at q8
          refine WC.region ?_
          refine WL.q (oq_move rfl) rfl rfl rfl ?_
          refine WL.q (oq_shrl 16 rfl rfl (by decide) (by decide)) rfl rfl rfl ?_
          refine WL.index_s Try.underlying9 rfl rfl (by (first | omega | (simp only [List.length_cons, List.length_nil, List.length_append, List.length_drop, List.length_take]; omega))) rfl rfl fun c9_2 hc9_2 hc9_2l hc9_2u => ?_
          refine WL.f1 ?_
          refine WL.f1 ?_
          refine WL.callW2 (B0.writeByte _ b 77 _ _ _ _ (.inr rfl) lies77 hb7_0 c9_2 hc9_2l hc9_2u (by first | omega | (simp only [List.length_append, List.length_cons, List.length_nil]; omega))) call64 rfl rfl rfl fun v9_3 Hs9_3 hR9_3 => ?_
          obtain ⟨x9_3, A9_3, rfl, rfl, hb9_3⟩ := hR9_3
          refine WL.to2 ?_
          refine WL.nil ?_
          refine WE.then_normal ?_
          refine WC.sub (fr' := [(3, _), (5, _), (7, _), (8, _), (9, _)]) ?_ ⟨rfl, rfl, rfl, rfl, rfl, trivial⟩
          refine WC.region ?_
          refine WL.q (oq_move rfl) rfl rfl rfl ?_
          refine WL.q (oq_mask 4 16 rfl rfl (by rw [u8_hi]; omega) (by decide) (by decide) (by decide)) rfl rfl rfl ?_
          refine WL.index_s Try.underlying9 rfl rfl (by (first | omega | (simp only [List.length_cons, List.length_nil, List.length_append, List.length_drop, List.length_take]; omega))) rfl rfl fun c10_2 hc10_2 hc10_2l hc10_2u => ?_
          refine WL.f1 ?_
          refine WL.f1 ?_
          refine WL.callW2 (B0.writeByte _ b 77 _ _ _ _ (.inr rfl) lies77 (by first | exact hb9_3 | exact hb7_0) c10_2 hc10_2l hc10_2u (by first | omega | (simp only [List.length_append, List.length_cons, List.length_nil]; omega))) call64 rfl rfl rfl fun v10_3 Hs10_3 hR10_3 => ?_
          obtain ⟨x10_3, A10_3, rfl, rfl, hb10_3⟩ := hR10_3
          refine WL.to2 ?_
          refine WL.nil ?_
          refine WE.block_normal ?_
          refine WE.then_normal ?_
          refine WC.sub (fr' := [(3, _), (7, _), (8, _), (9, _)]) ?_ ⟨rfl, rfl, rfl, rfl, trivial⟩
          refine WC.region ?_
          refine WL.q (oq_add rfl rfl (by rw [i64_lo, i64_hi]; (first | omega | (simp only [List.length_cons, List.length_nil, List.length_append, List.length_drop, List.length_take]; omega)))) rfl rfl rfl ?_
          refine WL.q (oq_move rfl) rfl rfl rfl ?_
          refine WL.nil ?_
          refine WE.again (i + 1, _, _, _, l ++ [UInt8.ofNat (37 : Int).toNat] ++ [UInt8.ofNat c9_2.toNat] ++ [UInt8.ofNat c10_2.toNat]) ?_ ?_ ⟨rfl, rfl, rfl, rfl, trivial⟩ (List.Perm.refl _)
          · try dsimp only   -- again 1
            have he : enc1 (byteAt s i) = [UInt8.ofNat (37 : Int).toNat] ++ [UInt8.ofNat c9_2.toNat] ++ [UInt8.ofNat c10_2.toNat] := by unfold enc1; rw [← hc4_1, if_neg (by simpa using q5), if_pos q8, hc9_2, hc10_2]; rfl
            exact ⟨by omega, .inr rfl, hb10_3, by simp; omega, by rw [← hf, esc_step s i (by omega), he]; simp⟩
          · (try dsimp only); omega
        ·
          try simp only [Bool.not_eq_eq_eq_not, Bool.not_true, Bool.not_false, decide_eq_true_eq, decide_eq_false_iff_not, Int.not_lt, Int.not_le, ne_eq, Decidable.not_not, ← List.length_eq_zero_iff] at q8
          refine WC.skip ?_
          refine WE.then_normal ?_
          refine WC.sub (fr' := [(3, _), (5, _), (7, _), (8, _), (9, _)]) ?_ ⟨rfl, rfl, rfl, rfl, rfl, trivial⟩
          refine WC.region ?_
          refine WL.q (oq_move rfl) rfl rfl rfl ?_
          refine WL.q (oq_mask 4 16 rfl rfl (by rw [u8_hi]; omega) (by decide) (by decide) (by decide)) rfl rfl rfl ?_
          refine WL.index_s Try.underlying9 rfl rfl (by (first | omega | (simp only [List.length_cons, List.length_nil, List.length_append, List.length_drop, List.length_take]; omega))) rfl rfl fun c10_2 hc10_2 hc10_2l hc10_2u => ?_
          refine WL.f1 ?_
          refine WL.f1 ?_
          refine WL.callW2 (B0.writeByte _ b 77 _ _ _ _ (.inr rfl) lies77 (by first | exact hb9_3 | exact hb7_0) c10_2 hc10_2l hc10_2u (by first | omega | (simp only [List.length_append, List.length_cons, List.length_nil]; omega))) call64 rfl rfl rfl fun v10_3 Hs10_3 hR10_3 => ?_
          obtain ⟨x10_3, A10_3, rfl, rfl, hb10_3⟩ := hR10_3
          refine WL.to2 ?_
          refine WL.nil ?_
          refine WE.block_normal ?_
          refine WE.then_normal ?_
          refine WC.sub (fr' := [(3, _), (7, _), (8, _), (9, _)]) ?_ ⟨rfl, rfl, rfl, rfl, trivial⟩
          refine WC.region ?_
          refine WL.q (oq_add rfl rfl (by rw [i64_lo, i64_hi]; (first | omega | (simp only [List.length_cons, List.length_nil, List.length_append, List.length_drop, List.length_take]; omega)))) rfl rfl rfl ?_
          refine WL.q (oq_move rfl) rfl rfl rfl ?_
          refine WL.nil ?_
          refine WE.again (i + 1, _, _, _, l ++ [UInt8.ofNat (37 : Int).toNat] ++ [UInt8.ofNat c10_2.toNat]) ?_ ?_ ⟨rfl, rfl, rfl, rfl, trivial⟩ (List.Perm.refl _)
          · try dsimp only   -- again 2
            have he : enc1 (byteAt s i) = [UInt8.ofNat (37 : Int).toNat] ++ [UInt8.ofNat c10_2.toNat] := by unfold enc1; rw [← hc4_1, if_neg (by simpa using q5), if_neg (by omega), hc10_2]; rfl
            exact ⟨by omega, .inr rfl, hb10_3, by simp; omega, by rw [← hf, esc_step s i (by omega), he]; simp⟩
          · (try dsimp only); omega
    ·
      try simp only [Bool.not_eq_eq_eq_not, Bool.not_true, Bool.not_false, decide_eq_true_eq, decide_eq_false_iff_not, Int.not_lt, Int.not_le, ne_eq, Decidable.not_not, ← List.length_eq_zero_iff] at q3
      refine WC.exit ?_
      refine WE.then_exit ?_
      refine WE.then_exit ?_
      refine WE.block_same ?_
      refine WE.then_normal ?_
      refine WC.sub (fr' := [(3, _)]) ?_ ⟨rfl, trivial⟩
      refine WC.seq ?_
      refine WC.region ?_
      refine WL.f1 ?_
      refine WL.f1 ?_
      refine WL.callW2 (B0.bstring _ b 77 _ _ _ _ hp lies77 hbf (by omega)) call62 rfl rfl rfl fun v12_0 Hs12_0 hR12_0 => ?_
      obtain ⟨rfl, rfl⟩ := hR12_0
      refine WL.to1 ?_
      refine WL.q (oq_assign rfl) rfl rfl rfl ?_
      refine WL.nil ?_
      refine WE.then_normal ?_
      refine WC.sub (fr' := [(2, _)]) ?_ ⟨rfl, trivial⟩
      refine WC.ret ?_
      refine WE.lose hb ?_
      refine WE.forget hA2_1 ?_
      refine WE.end0 (.inl rfl) (res1 Try.results55 rfl) ?_
      -- end 0
      rw [← hf, List.drop_eq_nil_of_le (by omega)]; simp

/-- given.example/pub-tinwright/impl.EEscape -/
theorem iescape (s : List UInt8) (hs : s.length ≤ 2147483647) : Fn0 Try.prog 38 [S s] (S (esc s)) := by
  refine Fn0.enter (n := 5) Try.func38 rfl rfl fun w0 => ?_
  refine WC.sub (fr' := [(0, _)]) ?_ ⟨rfl, trivial⟩
  refine WC.seq ?_
  refine WC.region ?_
  refine WL.q (oq_assign rfl) rfl rfl rfl ?_
  refine WL.nil ?_
  refine WE.then_normal ?_
  refine WC.sub (fr' := [(0, _)]) ?_ ⟨rfl, trivial⟩
  refine WC.seq ?_
  refine WC.region ?_
  refine WL.q (oq_move rfl) rfl rfl rfl ?_
  refine WL.qc (oq_call (uriEncode _ hs) call55 rfl) rfl rfl rfl ?_
  refine WL.q (oq_assign rfl) rfl rfl rfl ?_
  refine WL.nil ?_
  refine WE.then_normal ?_
  refine WC.sub (fr' := [(2, _)]) ?_ ⟨rfl, trivial⟩
  refine WC.ret ?_
  refine WE.end0 (.inl rfl) (res1 Try.results38 rfl) ?_
  -- end 0
  rfl

end E5
end Go.Proofs.Ythhankjineidiaa
