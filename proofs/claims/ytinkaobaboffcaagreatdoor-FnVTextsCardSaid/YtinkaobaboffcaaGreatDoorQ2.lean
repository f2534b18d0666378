/- Whole numbers by sixteen signs. -/
import Derived.Test.YtinkaobaboffcaaGreatDoorQ1
import Derived.Shelf.Strconv.Itoa0
import Derived.Shelf.Strconv.Itoa1
import Derived.Shelf.LaysM
import Derived.Shelf.Strconv.Itoa2
import Derived.Shelf.Strconv.Itoa3
import Derived.Shelf.Strconv.Itoa4
import Derived.Test.YtinkaobaboffcaaGreatDoorProg
namespace Go.Proofs.YtinkaobaboffcaaGreatDoor
open Go Go.RowKit V TA TB TC TD TE TF
set_option linter.unusedSimpArgs false
set_option linter.unusedVariables false
set_option maxRecDepth 10000
namespace TG
theorem call42 : Callable Tryz.prog 42 := ⟨_, Tryz.func42, rfl, by kernel_rfl⟩
theorem call43 : Callable Tryz.prog 43 := ⟨_, Tryz.func43, rfl, by kernel_rfl⟩
theorem call45 : Callable Tryz.prog 45 := ⟨_, Tryz.func45, rfl, by kernel_rfl⟩
theorem flat5 : Flat Tryz.prog 5 := ⟨_, Tryz.underlying5, by simp⟩
theorem ty5 : Ty Tryz.prog 5 (.int .u8 0) 1 1 := ty_of (by kernel_rfl)
theorem ty126 : Ty Tryz.prog 126 (.agg #[(.int .u8 0), (.int .u8 0), (.int .u8 0), (.int .u8 0), (.int .u8 0), (.int .u8 0), (.int .u8 0), (.int .u8 0), (.int .u8 0), (.int .u8 0), (.int .u8 0), (.int .u8 0), (.int .u8 0), (.int .u8 0), (.int .u8 0), (.int .u8 0), (.int .u8 0), (.int .u8 0), (.int .u8 0), (.int .u8 0), (.int .u8 0), (.int .u8 0), (.int .u8 0), (.int .u8 0), (.int .u8 0), (.int .u8 0), (.int .u8 0), (.int .u8 0), (.int .u8 0), (.int .u8 0), (.int .u8 0), (.int .u8 0), (.int .u8 0), (.int .u8 0), (.int .u8 0), (.int .u8 0), (.int .u8 0), (.int .u8 0), (.int .u8 0), (.int .u8 0), (.int .u8 0), (.int .u8 0), (.int .u8 0), (.int .u8 0), (.int .u8 0), (.int .u8 0), (.int .u8 0), (.int .u8 0), (.int .u8 0), (.int .u8 0), (.int .u8 0), (.int .u8 0), (.int .u8 0), (.int .u8 0), (.int .u8 0), (.int .u8 0), (.int .u8 0), (.int .u8 0), (.int .u8 0), (.int .u8 0), (.int .u8 0), (.int .u8 0), (.int .u8 0), (.int .u8 0), (.int .u8 0)]) 65 65 := ty_of (by kernel_rfl)
def Tz (G : Hp) : Prop := ∃ cs e fz, (5, .cells cs e fz) ∈ G ∧ cs[15]? = some (Value.int .u8 4)
theorem hex36 : ∀ n : Nat, n < 16 → byteAt [48, 49, 50, 51, 52, 53, 54, 55, 56, 57, 97, 98, 99, 100, 101, 102, 103, 104, 105, 106, 107, 108, 109, 110, 111, 112, 113, 114, 115, 116, 117, 118, 119, 120, 121, 122] (n : Int) = ((hx n).toNat : Int) := by decide
theorem hexF_small {f x : Nat} {acc : List UInt8} (hf : 0 < f) (hx2 : x < 16) : hexF f x acc = hx x :: acc := by
 obtain ⟨f, rfl⟩ : ∃ k, f = k + 1 := ⟨f - 1, by omega⟩
 rw [hexF, if_pos hx2]
theorem hexF_step {f x : Nat} {acc : List UInt8} (hx2 : ¬ x < 16) : hexF (f + 1) x acc = hexF f (x / 16) (hx (x % 16) :: acc) := by
 rw [hexF, if_neg hx2]
theorem set_drop {L : List UInt8} {i : Nat} {c : UInt8} (h1 : 1 ≤ i) (h : i ≤ L.length) : (L.set (i - 1) c).drop (i - 1) = c :: L.drop i := by
 have hl : i - 1 < (L.set (i - 1) c).length := by rw [List.length_set]; omega
 rw [List.drop_eq_getElem_cons hl, List.getElem_set_self, show i - 1 + 1 = i by omega, List.drop_set_of_lt (by omega)]
theorem wrapneg {m : Nat} (h : m < 18446744073709551616) : IntKind.u64.wrap (-(IntKind.u64.wrap (-(m : Int)))) = (m : Int) := by
 simp [IntKind.wrap, IntKind.min, IntKind.max, IntKind.signed, IntKind.bits]; omega
theorem uback {c : Int} {k : Nat} (h : c = ((hx k).toNat : Int)) : UInt8.ofNat c.toNat = hx k := by rw [h, Int.toNat_natCast, UInt8.ofNat_toNat]
theorem pow2  : Fn0 Tryz.prog 42 [I 16] (.bool true) := by
 refine Fn0.enter (n := 8) Tryz.func42 rfl rfl fun w0 => ?_
 refine WC.sub (fr' := [(0, _)]) ?_ ⟨rfl, trivial⟩
 refine WC.seq (WC.region ?_)
 refine WL.q (oq_assign rfl) rfl rfl rfl ?_
 refine WL.nil (WE.then_normal (WC.sub (fr' := [(0, _)]) ?_ ⟨rfl, trivial⟩))
 refine WC.seq (WC.region ?_)
 refine WL.q (oq_move rfl) rfl rfl rfl ?_
 refine WL.q (oq_move rfl) rfl rfl rfl ?_
 refine WL.q ((oq_sub rfl rfl (by rw [i64_lo, i64_hi]; omega)).to (v' := I 15) rfl) rfl rfl rfl ?_
 refine WL.q ((oq_bits (op := .and) rfl rfl (by simp)).to (v' := I 0) (by kernel_rfl)) rfl rfl rfl ?_
 refine WL.q ((oq_eql rfl rfl).to (v' := .bool true) (congrArg Value.bool (decide_eq_true (by omega)))) rfl rfl rfl ?_
 refine WL.q (oq_assign rfl) rfl rfl rfl ?_
 refine WL.nil (WE.then_normal (WC.sub (fr' := [(2, _)]) ?_ ⟨rfl, trivial⟩))
 refine WC.ret ?_
 refine WE.end0 (.inl rfl) (res1 Tryz.results42 rfl) ?_
 rfl
theorem tz64 (G : Hp) (hG : Tz G) : FnR Tryz.prog 45 [.int .u64 16] G (I 4) := by
 obtain ⟨cs, e, fz, hm, hc⟩ := hG
 refine FnR.enter (n := 14) Tryz.func45 rfl rfl fun w0 => ?_
 refine WC.sub (fr' := [(0, _)]) ?_ ⟨rfl, trivial⟩
 refine WC.seq (WC.region ?_)
 refine WL.q (oq_assign rfl) rfl rfl rfl ?_
 refine WL.nil (WE.then_normal (WC.sub (fr' := [(0, _)]) ?_ ⟨rfl, trivial⟩))
 refine WC.seq (WC.seq (WC.region ?_))
 refine WL.q (oq_move rfl) rfl rfl rfl ?_
 refine WL.q ((oq_eql rfl rfl).to (v' := .bool false) (congrArg Value.bool (decide_eq_false (by omega)))) rfl rfl rfl ?_
 refine WL.nil (WE.then_normal (WC.sub (fr' := [(0, _), (4, _)]) ?_ ⟨rfl, rfl, trivial⟩))
 refine WC.cond_f rfl ?_
 refine WC.skip (WE.then_normal (WC.sub (fr' := [(0, _)]) ?_ ⟨rfl, trivial⟩))
 refine WC.seq (WC.region ?_)
 refine WL.q (oq_move rfl) rfl rfl rfl ?_
 refine WL.q (oq_move rfl) rfl rfl rfl ?_
 refine WL.q ((oq_negw rfl).to (v' := .int .u64 18446744073709551600) (by kernel_rfl)) rfl rfl rfl ?_
 refine WL.q ((oq_bits (op := .and) rfl rfl (by simp)).to (v' := .int .u64 16) (by kernel_rfl)) rfl rfl rfl ?_
 refine WL.q ((oq_mul rfl rfl (by rw [u64_lo, u64_hi]; omega)).to (v' := .int .u64 4573923408821661840) rfl) rfl rfl rfl ?_
 refine WL.q ((oq_shr rfl rfl (by omega)).to (v' := .int .u64 15) (by kernel_rfl)) rfl rfl rfl ?_
 refine WL.q (oq_ixArr (i := 15) (b := 5) (off := 0) Tryz.underlying143 ty5 rfl rfl (by decide)) rfl rfl rfl ?_
 refine WL.q (oq_load flat5 rfl (.head _) hm (by rw [Nat.zero_add]; exact hc)) rfl rfl rfl ?_
 refine WL.q (oq_conv Tryz.underlying5 Tryz.underlying3 rfl (by rw [i64_lo, i64_hi]; omega)) rfl rfl rfl ?_
 refine WL.q (oq_assign rfl) rfl rfl rfl ?_
 refine WL.nil (WE.then_normal (WC.sub (fr' := [(2, _)]) ?_ ⟨rfl, trivial⟩))
 refine WC.ret ?_
 refine WE.endR (.inl rfl) (res1 Tryz.results45 rfl) ?_
 rfl
theorem tz (G : Hp) (hG : Tz G) : FnR Tryz.prog 43 [.int .u64 16] G (I 4) := by
 refine FnR.enter (n := 8) Tryz.func43 rfl rfl fun w0 => ?_
 refine WC.sub (fr' := [(0, _)]) ?_ ⟨rfl, trivial⟩
 refine WC.seq (WC.region ?_)
 refine WL.q (oq_assign rfl) rfl rfl rfl ?_
 refine WL.nil (WE.then_normal (WC.sub (fr' := [(0, _)]) ?_ ⟨rfl, trivial⟩))
 refine WC.seq ?_
 refine WC.cond_f rfl ?_
 refine WC.skip (WE.then_normal (WC.sub (fr' := [(0, _)]) ?_ ⟨rfl, trivial⟩))
 refine WC.seq (WC.region ?_)
 refine WL.q (oq_move rfl) rfl rfl rfl ?_
 refine WL.qc (oq_callRm (tz64 G hG) (.head _) call45 rfl) rfl rfl rfl ?_
 refine WL.q (oq_assign rfl) rfl rfl rfl ?_
 refine WL.nil (WE.then_normal (WC.sub (fr' := [(2, _)]) ?_ ⟨rfl, trivial⟩))
 refine WC.ret ?_
 refine WE.endR (.inl rfl) (res1 Tryz.results43 rfl) ?_
 rfl
theorem fbitsP (m : Nat) (hm : m < 18446744073709551616) (G : Hp) (hG : Tz G) : FnR Tryz.prog 35 [.slice none 0 0, .int .u64 (m : Int), I 16, .bool false, .bool false] G (.tuple #[.slice none 0 0, S (hex m)]) := by
 refine FnR.enter (n := 102) Tryz.func35 rfl rfl fun w0 => ?_
 refine WC.sub (fr' := [(0, _), (1, _), (2, _), (3, _), (4, _)]) ?_ ⟨rfl, rfl, rfl, rfl, rfl, trivial⟩
 refine WC.seq (WC.region ?_)
 refine WL.q (oq_assign rfl) rfl rfl rfl ?_
 refine WL.q (oq_assign rfl) rfl rfl rfl ?_
 refine WL.nil (WE.then_normal (WC.sub (fr' := [(0, _), (1, _), (2, _), (3, _), (4, _), (10, _), (11, _)]) ?_ ⟨rfl, rfl, rfl, rfl, rfl, rfl, rfl, trivial⟩))
 refine WC.seq (WC.seq (WC.region ?_))
 refine WL.q (oq_move rfl) rfl rfl rfl ?_
 refine WL.q ((oq_lss rfl rfl).to (v' := .bool false) (congrArg Value.bool (decide_eq_false (by omega)))) rfl rfl rfl ?_
 refine WL.q (oq_move rfl) rfl rfl rfl ?_
 refine WL.q (oq_move rfl) rfl rfl rfl ?_
 refine WL.q ((oq_eql rfl rfl).to (v' := .bool false) (congrArg Value.bool (decide_eq_false (by omega)))) rfl rfl rfl ?_
 refine WL.q (oq_pick_f rfl rfl) rfl rfl rfl ?_
 refine WL.q (oq_move rfl) rfl rfl rfl ?_
 refine WL.q (oq_move rfl) rfl rfl rfl ?_
 refine WL.q ((oq_gtr rfl rfl).to (v' := .bool false) (congrArg Value.bool (decide_eq_false (by omega)))) rfl rfl rfl ?_
 refine WL.q (oq_pick_f rfl rfl) rfl rfl rfl ?_
 refine WL.nil (WE.then_normal (WC.sub (fr' := [(0, _), (1, _), (2, _), (3, _), (4, _), (10, _), (11, _), (28, _)]) ?_ ⟨rfl, rfl, rfl, rfl, rfl, rfl, rfl, rfl, trivial⟩))
 refine WC.cond_f rfl ?_
 refine WC.skip (WE.then_normal (WC.sub (fr' := [(0, _), (1, _), (2, _), (3, _), (4, _), (10, _), (11, _)]) ?_ ⟨rfl, rfl, rfl, rfl, rfl, rfl, rfl, trivial⟩))
 refine WC.seq (WC.region ?_)
 refine WL.alloc ty126 rfl rfl fun ab hab => ?_
 refine WL.asB (List.replicate 65 0) rfl ?_
 refine WL.nil (WE.then_normal (WC.sub (fr' := [(0, _), (1, _), (2, _), (3, _), (4, _), (10, _), (11, _), (12, _)]) ?_ ⟨rfl, rfl, rfl, rfl, rfl, rfl, rfl, rfl, trivial⟩))
 refine WC.seq (WC.region ?_)
 refine WL.q (oq_assign rfl) rfl rfl rfl ?_
 refine WL.nil (WE.then_normal (WC.sub (fr' := [(0, _), (1, _), (2, _), (3, _), (4, _), (10, _), (11, _), (12, _), (13, _)]) ?_ ⟨rfl, rfl, rfl, rfl, rfl, rfl, rfl, rfl, rfl, trivial⟩))
 refine WC.seq (WC.seq (WC.region ?_))
 refine WL.q (oq_move rfl) rfl rfl rfl ?_
 refine WL.nil (WE.then_normal (WC.sub (fr' := [(0, _), (1, _), (2, _), (3, _), (4, _), (10, _), (11, _), (12, _), (13, _), (30, _)]) ?_ ⟨rfl, rfl, rfl, rfl, rfl, rfl, rfl, rfl, rfl, rfl, trivial⟩))
 refine WC.cond_f rfl ?_
 refine WC.skip (WE.then_normal (WC.sub (fr' := [(0, _), (1, _), (2, _), (3, _), (4, _), (10, _), (11, _), (12, _), (13, _)]) ?_ ⟨rfl, rfl, rfl, rfl, rfl, rfl, rfl, rfl, rfl, trivial⟩))
 refine WC.seq (WC.seq (WC.region ?_))
 refine WL.q (oq_move rfl) rfl rfl rfl ?_
 refine WL.qc (oq_call (pow2) call42 rfl) rfl rfl rfl ?_
 refine WL.nil (WE.then_normal (WC.sub (fr' := [(0, _), (1, _), (2, _), (3, _), (4, _), (10, _), (11, _), (12, _), (13, _), (34, _)]) ?_ ⟨rfl, rfl, rfl, rfl, rfl, rfl, rfl, rfl, rfl, rfl, trivial⟩))
 refine WC.cond_t rfl ?_
 refine WC.seq (WC.region ?_)
 refine WL.q (oq_move rfl) rfl rfl rfl ?_
 refine WL.q (oq_conv Tryz.underlying3 Tryz.underlying74 rfl (by rw [u64_lo, u64_hi]; omega)) rfl rfl rfl ?_
 refine WL.qc (oq_callRm (tz G hG) (.tail _ (.head _)) call43 rfl) rfl rfl rfl ?_
 refine WL.q (oq_conv Tryz.underlying3 Tryz.underlying74 rfl (by rw [u64_lo, u64_hi]; omega)) rfl rfl rfl ?_
 refine WL.q (oq_assign rfl) rfl rfl rfl ?_
 refine WL.nil (WE.then_normal (WC.sub (fr' := [(0, _), (1, _), (2, _), (3, _), (4, _), (10, _), (11, _), (12, _), (13, _), (14, _)]) ?_ ⟨rfl, rfl, rfl, rfl, rfl, rfl, rfl, rfl, rfl, rfl, trivial⟩))
 refine WC.seq (WC.region ?_)
 refine WL.q (oq_move rfl) rfl rfl rfl ?_
 refine WL.q (oq_conv Tryz.underlying3 Tryz.underlying40 rfl (by rw [u64_lo, u64_hi]; omega)) rfl rfl rfl ?_
 refine WL.q (oq_assign rfl) rfl rfl rfl ?_
 refine WL.nil (WE.then_normal (WC.sub (fr' := [(0, _), (1, _), (2, _), (3, _), (4, _), (10, _), (11, _), (12, _), (13, _), (14, _), (15, _)]) ?_ ⟨rfl, rfl, rfl, rfl, rfl, rfl, rfl, rfl, rfl, rfl, rfl, trivial⟩))
 refine WC.seq (WC.region ?_)
 refine WL.q (oq_move rfl) rfl rfl rfl ?_
 refine WL.q (oq_conv Tryz.underlying3 Tryz.underlying74 rfl (by rw [u64_lo, u64_hi]; omega)) rfl rfl rfl ?_
 refine WL.q ((oq_sub rfl rfl (by rw [u64_lo, u64_hi]; omega)).to (v' := .int .u64 15) rfl) rfl rfl rfl ?_
 refine WL.q (oq_assign rfl) rfl rfl rfl ?_
 refine WL.nil (WE.then_normal (WC.sub (fr' := [(0, _), (1, _), (3, _), (4, _), (10, _), (11, _), (12, _), (13, _), (14, _), (15, _), (16, _)]) ?_ ⟨rfl, rfl, rfl, rfl, rfl, rfl, rfl, rfl, rfl, rfl, rfl, trivial⟩))
 refine WC.seq (WC.block ?_)
 refine WC.loop (ι := Nat × Nat × (List UInt8)) (fun i_ => (fun (x : Nat) (i : Nat) (L : List UInt8) => [(0, .slice none 0 0), (1, .int .u64 (x : Int)), (3, .bool false), (4, .bool false), (10, .slice none 0 0), (11, S []), (12, Pt ab 0), (13, I (i : Int)), (14, .int .u64 4), (15, .int .u64 16), (16, .int .u64 15)]) i_.1 i_.2.1 i_.2.2) (fun i_ => (fun (x : Nat) (i : Nat) (L : List UInt8) => [Bf ab 126 L, G]) i_.1 i_.2.1 i_.2.2) (fun i_ => (fun (x : Nat) (i : Nat) (L : List UInt8) => 49 ≤ i ∧ i ≤ 65 ∧ L.length = 65 ∧ hexF (i - 48) x (L.drop i) = hex m ∧ x < 16 ^ (i - 49)) i_.1 i_.2.1 i_.2.2) (fun i_ => (fun (x : Nat) (i : Nat) (L : List UInt8) => i) i_.1 i_.2.1 i_.2.2) ((m, 65, List.replicate 65 0)) ?_ ⟨rfl, rfl, rfl, rfl, rfl, rfl, rfl, rfl, rfl, rfl, rfl, trivial⟩ (List.Perm.refl _) ?_
 ·try dsimp only
  exact ⟨by omega, by omega, by simp, rfl, hm⟩
 ·rintro ⟨x, i, L⟩ hp
  try dsimp only at hp
  obtain ⟨hi1, hi2, hL, hx1, hx2⟩ := hp
  show WC _ _ _ _ _ _ ([(0, .slice none 0 0), (1, .int .u64 (x : Int)), (3, .bool false), (4, .bool false), (10, .slice none 0 0), (11, S []), (12, Pt ab 0), (13, I (i : Int)), (14, .int .u64 4), (15, .int .u64 16), (16, .int .u64 15)]) ([Bf ab 126 L, G])
  refine WC.seq (WC.seq (WC.region ?_))
  refine WL.q (oq_move rfl) rfl rfl rfl ?_
  refine WL.q (oq_move rfl) rfl rfl rfl ?_
  refine WL.q (oq_geq rfl rfl) rfl rfl rfl ?_
  refine WL.nil (WE.then_normal (WC.sub (fr' := [(0, _), (1, _), (3, _), (4, _), (10, _), (11, _), (12, _), (13, _), (14, _), (15, _), (16, _), (46, _)]) ?_ ⟨rfl, rfl, rfl, rfl, rfl, rfl, rfl, rfl, rfl, rfl, rfl, rfl, trivial⟩))
  refine WC.cond rfl (fun q11 => ?_) (fun q11 => ?_)
  ·
   try simp only [Z1, Z2, Z3, Z4, Z5, Z6, Z7, Z8, Z9, Z0] at q11
   refine WC.skip (WE.then_normal (WC.sub (fr' := [(0, _), (1, _), (3, _), (4, _), (10, _), (11, _), (12, _), (13, _), (14, _), (15, _), (16, _)]) ?_ ⟨rfl, rfl, rfl, rfl, rfl, rfl, rfl, rfl, rfl, rfl, rfl, trivial⟩))
   refine WC.block (WC.seq ?_)
   have hx64 : x < 18446744073709551616 := Nat.lt_of_lt_of_le hx2 (Nat.pow_le_pow_right (n := 16) (by decide) (show i - 49 ≤ 16 by omega))
   have hi3 : 51 ≤ i := by
    rcases Nat.lt_or_ge i 51 with h | h
    ·exfalso
     rcases (show i = 49 ∨ i = 50 by omega) with rfl | rfl
     ·simp at hx2; omega
     ·simp at hx2; omega
    ·exact h
   refine WC.region ?_
   refine WL.q (oq_move rfl) rfl rfl rfl ?_
   refine WL.q ((oq_sub rfl rfl (by rw [i64_lo, i64_hi]; omega)).to (v' := I ((i - 1 : Nat) : Int)) (congrArg I (by omega))) rfl rfl rfl ?_
   refine WL.q (oq_assign rfl) rfl rfl rfl ?_
   refine WL.nil (WE.then_normal (WC.sub (fr' := [(0, _), (1, _), (3, _), (4, _), (10, _), (11, _), (12, _), (13, _), (14, _), (15, _), (16, _)]) ?_ ⟨rfl, rfl, rfl, rfl, rfl, rfl, rfl, rfl, rfl, rfl, rfl, trivial⟩))
   refine WC.seq (WC.region ?_)
   refine WL.q (oq_move rfl) rfl rfl rfl ?_
   refine WL.q (oq_move rfl) rfl rfl rfl ?_
   refine WL.q (oq_move rfl) rfl rfl rfl ?_
   refine WL.q ((oq_mask 4 16 rfl rfl (by rw [u64_hi]; omega) (by decide) (by decide) (by decide)).to (v' := .int .u64 ((x % 16 : Nat) : Int)) (congrArg (Value.int .u64) (by omega))) rfl rfl rfl ?_
   refine WL.index_s Tryz.underlying9 rfl rfl (by first | omega | exact ⟨by omega, Int.lt_of_lt_of_le (b := 36) (by omega) (by decide)⟩) rfl rfl fun c13_4 hc13_4 hc13_4l hc13_4u => ?_
   refine WL.q (oq_ixArr (i := (i - 1)) Tryz.underlying126 ty5 rfl rfl (by first | omega | (simp only [List.length_set]; omega))) rfl rfl rfl ?_
   refine WL.storeB ty5 rfl rfl (by omega) (by first | omega | (simp only [List.length_set]; omega)) rfl ?_
   refine WL.nil (WE.then_normal (WC.sub (fr' := [(0, _), (1, _), (3, _), (4, _), (10, _), (11, _), (12, _), (13, _), (14, _), (15, _), (16, _)]) ?_ ⟨rfl, rfl, rfl, rfl, rfl, rfl, rfl, rfl, rfl, rfl, rfl, trivial⟩))
   refine WC.region ?_
   refine WL.q (oq_move rfl) rfl rfl rfl ?_
   refine WL.q (oq_move rfl) rfl rfl rfl ?_
   refine WL.q ((oq_shrl 16 rfl rfl (by decide) (by decide)).to (v' := .int .u64 ((x / 16 : Nat) : Int)) (congrArg (Value.int .u64) (by omega))) rfl rfl rfl ?_
   refine WL.q (oq_assign rfl) rfl rfl rfl ?_
   refine WL.nil (WE.block_normal ?_)
   refine WE.again (x / 16, i - 1, _) ?_ ?_ ⟨rfl, rfl, rfl, rfl, rfl, rfl, rfl, rfl, rfl, rfl, rfl, trivial⟩ (List.Perm.refl _)
   ·try dsimp only
    have hbk := uback (hc13_4.trans (hex36 (x % 16) (Nat.mod_lt _ (by decide))))
    refine ⟨by omega, by omega, by rw [List.length_set]; exact hL, ?_, ?_⟩
    ·rw [Nat.zero_add, set_drop (by omega) (by omega), hbk, ← hx1, show i - 48 = (i - 1 - 48) + 1 by omega, hexF_step (by omega)]
    ·rw [Nat.div_lt_iff_lt_mul (by decide), ← Nat.pow_succ, show (i - 1 - 49).succ = i - 49 by omega]; exact hx2
   ·(try dsimp only); omega
  ·
   try simp only [Z1, Z2, Z3, Z4, Z5, Z6, Z7, Z8, Z9, Z0] at q11
   refine WC.exit (WE.then_exit (WE.then_exit (WE.block_same (WE.then_normal (WC.sub (fr' := [(0, _), (1, _), (3, _), (4, _), (10, _), (11, _), (12, _), (13, _)]) ?_ ⟨rfl, rfl, rfl, rfl, rfl, rfl, rfl, rfl, trivial⟩)))))
   refine WC.seq (WC.region ?_)
   refine WL.q (oq_move rfl) rfl rfl rfl ?_
   refine WL.q ((oq_sub rfl rfl (by rw [i64_lo, i64_hi]; omega)).to (v' := I ((i - 1 : Nat) : Int)) (congrArg I (by omega))) rfl rfl rfl ?_
   refine WL.q (oq_assign rfl) rfl rfl rfl ?_
   refine WL.nil (WE.then_normal (WC.sub (fr' := [(0, _), (1, _), (3, _), (4, _), (10, _), (11, _), (12, _), (13, _)]) ?_ ⟨rfl, rfl, rfl, rfl, rfl, rfl, rfl, rfl, trivial⟩))
   refine WC.region ?_
   refine WL.q (oq_move rfl) rfl rfl rfl ?_
   refine WL.q (oq_move rfl) rfl rfl rfl ?_
   refine WL.index_s Tryz.underlying9 rfl rfl (by first | omega | exact ⟨by omega, Int.lt_of_lt_of_le (b := 36) (by omega) (by decide)⟩) rfl rfl fun c16_2 hc16_2 hc16_2l hc16_2u => ?_
   refine WL.q (oq_ixArr (i := (i - 1)) Tryz.underlying126 ty5 rfl rfl (by first | omega | (simp only [List.length_set]; omega))) rfl rfl rfl ?_
   refine WL.storeB ty5 rfl rfl (by omega) (by first | omega | (simp only [List.length_set]; omega)) rfl ?_
   refine WL.nil (WE.then_normal (WC.sub (fr' := [(0, _), (3, _), (4, _), (10, _), (11, _), (12, _), (13, _)]) ?_ ⟨rfl, rfl, rfl, rfl, rfl, rfl, rfl, trivial⟩))
   refine WC.seq (WC.seq (WC.region ?_))
   refine WL.q (oq_move rfl) rfl rfl rfl ?_
   refine WL.nil (WE.then_normal (WC.sub (fr' := [(0, _), (4, _), (10, _), (11, _), (12, _), (13, _), (89, _)]) ?_ ⟨rfl, rfl, rfl, rfl, rfl, rfl, rfl, trivial⟩))
   refine WC.cond_f rfl ?_
   refine WC.skip (WE.then_normal (WC.sub (fr' := [(0, _), (4, _), (10, _), (11, _), (12, _), (13, _)]) ?_ ⟨rfl, rfl, rfl, rfl, rfl, rfl, trivial⟩))
   refine WC.seq (WC.seq (WC.region ?_))
   refine WL.q (oq_move rfl) rfl rfl rfl ?_
   refine WL.nil (WE.then_normal (WC.sub (fr' := [(0, _), (10, _), (11, _), (12, _), (13, _), (94, _)]) ?_ ⟨rfl, rfl, rfl, rfl, rfl, rfl, trivial⟩))
   refine WC.cond_f rfl ?_
   refine WC.skip (WE.then_normal (WC.sub (fr' := [(10, _), (12, _), (13, _)]) ?_ ⟨rfl, rfl, rfl, trivial⟩))
   refine WC.seq (WC.region ?_)
   refine WL.q (oq_move rfl) rfl rfl rfl ?_
   refine WL.q (oq_sliceArr (i := (i - 1)) Tryz.underlying126 ty5 rfl ⟨_, rfl⟩ rfl (by first | omega | (simp only [List.length_set]; omega)) (by first | omega | (simp only [List.length_set]; omega))) rfl rfl rfl ?_
   refine WL.q (oq_bytesStr (Sl.rd (by first | omega | (simp only [List.length_set]; omega)) (by first | omega | (simp only [List.length_set]; omega))) (.head _) Tryz.underlying9 Tryz.underlying31 Tryz.underlying5 rfl) rfl rfl rfl ?_
   refine WL.q (oq_assign rfl) rfl rfl rfl ?_
   refine WL.nil (WE.then_normal (WC.sub (fr' := [(10, _), (11, _)]) ?_ ⟨rfl, rfl, trivial⟩))
   refine WC.ret ?_
   refine WE.lose hab ?_
   refine WE.endR (.inl rfl) (res2 Tryz.results35 rfl rfl) ?_
   have hbk := uback (hc16_2.trans (hex36 x (by omega)))
   have hd := set_drop (L := L) (i := i) (c := hx x) (by omega) (by omega)
   rw [← hbk] at hd
   simp only [Nat.zero_add]
   rw [hd, hbk, List.take_of_length_le (by simp; omega), ← hx1, hexF_small (by omega) (by omega)]
theorem fbitsN (m : Nat) (hm : m < 18446744073709551616) (G : Hp) (hG : Tz G) : FnR Tryz.prog 35 [.slice none 0 0, .int .u64 (IntKind.u64.wrap (-(m : Int))), I 16, .bool true, .bool false] G (.tuple #[.slice none 0 0, S (45 :: hex m)]) := by
 refine FnR.enter (n := 102) Tryz.func35 rfl rfl fun w0 => ?_
 refine WC.sub (fr' := [(0, _), (1, _), (2, _), (3, _), (4, _)]) ?_ ⟨rfl, rfl, rfl, rfl, rfl, trivial⟩
 refine WC.seq (WC.region ?_)
 refine WL.q (oq_assign rfl) rfl rfl rfl ?_
 refine WL.q (oq_assign rfl) rfl rfl rfl ?_
 refine WL.nil (WE.then_normal (WC.sub (fr' := [(0, _), (1, _), (2, _), (3, _), (4, _), (10, _), (11, _)]) ?_ ⟨rfl, rfl, rfl, rfl, rfl, rfl, rfl, trivial⟩))
 refine WC.seq (WC.seq (WC.region ?_))
 refine WL.q (oq_move rfl) rfl rfl rfl ?_
 refine WL.q ((oq_lss rfl rfl).to (v' := .bool false) (congrArg Value.bool (decide_eq_false (by omega)))) rfl rfl rfl ?_
 refine WL.q (oq_move rfl) rfl rfl rfl ?_
 refine WL.q (oq_move rfl) rfl rfl rfl ?_
 refine WL.q ((oq_eql rfl rfl).to (v' := .bool false) (congrArg Value.bool (decide_eq_false (by omega)))) rfl rfl rfl ?_
 refine WL.q (oq_pick_f rfl rfl) rfl rfl rfl ?_
 refine WL.q (oq_move rfl) rfl rfl rfl ?_
 refine WL.q (oq_move rfl) rfl rfl rfl ?_
 refine WL.q ((oq_gtr rfl rfl).to (v' := .bool false) (congrArg Value.bool (decide_eq_false (by omega)))) rfl rfl rfl ?_
 refine WL.q (oq_pick_f rfl rfl) rfl rfl rfl ?_
 refine WL.nil (WE.then_normal (WC.sub (fr' := [(0, _), (1, _), (2, _), (3, _), (4, _), (10, _), (11, _), (28, _)]) ?_ ⟨rfl, rfl, rfl, rfl, rfl, rfl, rfl, rfl, trivial⟩))
 refine WC.cond_f rfl ?_
 refine WC.skip (WE.then_normal (WC.sub (fr' := [(0, _), (1, _), (2, _), (3, _), (4, _), (10, _), (11, _)]) ?_ ⟨rfl, rfl, rfl, rfl, rfl, rfl, rfl, trivial⟩))
 refine WC.seq (WC.region ?_)
 refine WL.alloc ty126 rfl rfl fun ab hab => ?_
 refine WL.asB (List.replicate 65 0) rfl ?_
 refine WL.nil (WE.then_normal (WC.sub (fr' := [(0, _), (1, _), (2, _), (3, _), (4, _), (10, _), (11, _), (12, _)]) ?_ ⟨rfl, rfl, rfl, rfl, rfl, rfl, rfl, rfl, trivial⟩))
 refine WC.seq (WC.region ?_)
 refine WL.q (oq_assign rfl) rfl rfl rfl ?_
 refine WL.nil (WE.then_normal (WC.sub (fr' := [(0, _), (1, _), (2, _), (3, _), (4, _), (10, _), (11, _), (12, _), (13, _)]) ?_ ⟨rfl, rfl, rfl, rfl, rfl, rfl, rfl, rfl, rfl, trivial⟩))
 refine WC.seq (WC.seq (WC.region ?_))
 refine WL.q (oq_move rfl) rfl rfl rfl ?_
 refine WL.nil (WE.then_normal (WC.sub (fr' := [(0, _), (1, _), (2, _), (3, _), (4, _), (10, _), (11, _), (12, _), (13, _), (30, _)]) ?_ ⟨rfl, rfl, rfl, rfl, rfl, rfl, rfl, rfl, rfl, rfl, trivial⟩))
 refine WC.cond_t rfl ?_
 refine WC.region ?_
 refine WL.q (oq_move rfl) rfl rfl rfl ?_
 refine WL.q (oq_negw rfl |>.to (v' := .int .u64 (m : Int)) (congrArg (Value.int .u64) (wrapneg hm))) rfl rfl rfl ?_
 refine WL.q (oq_assign rfl) rfl rfl rfl ?_
 refine WL.nil (WE.then_normal (WC.sub (fr' := [(0, _), (1, _), (2, _), (3, _), (4, _), (10, _), (11, _), (12, _), (13, _)]) ?_ ⟨rfl, rfl, rfl, rfl, rfl, rfl, rfl, rfl, rfl, trivial⟩))
 refine WC.seq (WC.seq (WC.region ?_))
 refine WL.q (oq_move rfl) rfl rfl rfl ?_
 refine WL.qc (oq_call (pow2) call42 rfl) rfl rfl rfl ?_
 refine WL.nil (WE.then_normal (WC.sub (fr' := [(0, _), (1, _), (2, _), (3, _), (4, _), (10, _), (11, _), (12, _), (13, _), (34, _)]) ?_ ⟨rfl, rfl, rfl, rfl, rfl, rfl, rfl, rfl, rfl, rfl, trivial⟩))
 refine WC.cond_t rfl ?_
 refine WC.seq (WC.region ?_)
 refine WL.q (oq_move rfl) rfl rfl rfl ?_
 refine WL.q (oq_conv Tryz.underlying3 Tryz.underlying74 rfl (by rw [u64_lo, u64_hi]; omega)) rfl rfl rfl ?_
 refine WL.qc (oq_callRm (tz G hG) (.tail _ (.head _)) call43 rfl) rfl rfl rfl ?_
 refine WL.q (oq_conv Tryz.underlying3 Tryz.underlying74 rfl (by rw [u64_lo, u64_hi]; omega)) rfl rfl rfl ?_
 refine WL.q (oq_assign rfl) rfl rfl rfl ?_
 refine WL.nil (WE.then_normal (WC.sub (fr' := [(0, _), (1, _), (2, _), (3, _), (4, _), (10, _), (11, _), (12, _), (13, _), (14, _)]) ?_ ⟨rfl, rfl, rfl, rfl, rfl, rfl, rfl, rfl, rfl, rfl, trivial⟩))
 refine WC.seq (WC.region ?_)
 refine WL.q (oq_move rfl) rfl rfl rfl ?_
 refine WL.q (oq_conv Tryz.underlying3 Tryz.underlying40 rfl (by rw [u64_lo, u64_hi]; omega)) rfl rfl rfl ?_
 refine WL.q (oq_assign rfl) rfl rfl rfl ?_
 refine WL.nil (WE.then_normal (WC.sub (fr' := [(0, _), (1, _), (2, _), (3, _), (4, _), (10, _), (11, _), (12, _), (13, _), (14, _), (15, _)]) ?_ ⟨rfl, rfl, rfl, rfl, rfl, rfl, rfl, rfl, rfl, rfl, rfl, trivial⟩))
 refine WC.seq (WC.region ?_)
 refine WL.q (oq_move rfl) rfl rfl rfl ?_
 refine WL.q (oq_conv Tryz.underlying3 Tryz.underlying74 rfl (by rw [u64_lo, u64_hi]; omega)) rfl rfl rfl ?_
 refine WL.q ((oq_sub rfl rfl (by rw [u64_lo, u64_hi]; omega)).to (v' := .int .u64 15) rfl) rfl rfl rfl ?_
 refine WL.q (oq_assign rfl) rfl rfl rfl ?_
 refine WL.nil (WE.then_normal (WC.sub (fr' := [(0, _), (1, _), (3, _), (4, _), (10, _), (11, _), (12, _), (13, _), (14, _), (15, _), (16, _)]) ?_ ⟨rfl, rfl, rfl, rfl, rfl, rfl, rfl, rfl, rfl, rfl, rfl, trivial⟩))
 refine WC.seq (WC.block ?_)
 refine WC.loop (ι := Nat × Nat × (List UInt8)) (fun i_ => (fun (x : Nat) (i : Nat) (L : List UInt8) => [(0, .slice none 0 0), (1, .int .u64 (x : Int)), (3, .bool true), (4, .bool false), (10, .slice none 0 0), (11, S []), (12, Pt ab 0), (13, I (i : Int)), (14, .int .u64 4), (15, .int .u64 16), (16, .int .u64 15)]) i_.1 i_.2.1 i_.2.2) (fun i_ => (fun (x : Nat) (i : Nat) (L : List UInt8) => [Bf ab 126 L, G]) i_.1 i_.2.1 i_.2.2) (fun i_ => (fun (x : Nat) (i : Nat) (L : List UInt8) => 49 ≤ i ∧ i ≤ 65 ∧ L.length = 65 ∧ hexF (i - 48) x (L.drop i) = hex m ∧ x < 16 ^ (i - 49)) i_.1 i_.2.1 i_.2.2) (fun i_ => (fun (x : Nat) (i : Nat) (L : List UInt8) => i) i_.1 i_.2.1 i_.2.2) ((m, 65, List.replicate 65 0)) ?_ ⟨rfl, rfl, rfl, rfl, rfl, rfl, rfl, rfl, rfl, rfl, rfl, trivial⟩ (List.Perm.refl _) ?_
 ·try dsimp only
  exact ⟨by omega, by omega, by simp, rfl, hm⟩
 ·rintro ⟨x, i, L⟩ hp
  try dsimp only at hp
  obtain ⟨hi1, hi2, hL, hx1, hx2⟩ := hp
  show WC _ _ _ _ _ _ ([(0, .slice none 0 0), (1, .int .u64 (x : Int)), (3, .bool true), (4, .bool false), (10, .slice none 0 0), (11, S []), (12, Pt ab 0), (13, I (i : Int)), (14, .int .u64 4), (15, .int .u64 16), (16, .int .u64 15)]) ([Bf ab 126 L, G])
  refine WC.seq (WC.seq (WC.region ?_))
  refine WL.q (oq_move rfl) rfl rfl rfl ?_
  refine WL.q (oq_move rfl) rfl rfl rfl ?_
  refine WL.q (oq_geq rfl rfl) rfl rfl rfl ?_
  refine WL.nil (WE.then_normal (WC.sub (fr' := [(0, _), (1, _), (3, _), (4, _), (10, _), (11, _), (12, _), (13, _), (14, _), (15, _), (16, _), (46, _)]) ?_ ⟨rfl, rfl, rfl, rfl, rfl, rfl, rfl, rfl, rfl, rfl, rfl, rfl, trivial⟩))
  refine WC.cond rfl (fun q11 => ?_) (fun q11 => ?_)
  ·
   try simp only [Z1, Z2, Z3, Z4, Z5, Z6, Z7, Z8, Z9, Z0] at q11
   refine WC.skip (WE.then_normal (WC.sub (fr' := [(0, _), (1, _), (3, _), (4, _), (10, _), (11, _), (12, _), (13, _), (14, _), (15, _), (16, _)]) ?_ ⟨rfl, rfl, rfl, rfl, rfl, rfl, rfl, rfl, rfl, rfl, rfl, trivial⟩))
   refine WC.block (WC.seq ?_)
   have hx64 : x < 18446744073709551616 := Nat.lt_of_lt_of_le hx2 (Nat.pow_le_pow_right (n := 16) (by decide) (show i - 49 ≤ 16 by omega))
   have hi3 : 51 ≤ i := by
    rcases Nat.lt_or_ge i 51 with h | h
    ·exfalso
     rcases (show i = 49 ∨ i = 50 by omega) with rfl | rfl
     ·simp at hx2; omega
     ·simp at hx2; omega
    ·exact h
   refine WC.region ?_
   refine WL.q (oq_move rfl) rfl rfl rfl ?_
   refine WL.q ((oq_sub rfl rfl (by rw [i64_lo, i64_hi]; omega)).to (v' := I ((i - 1 : Nat) : Int)) (congrArg I (by omega))) rfl rfl rfl ?_
   refine WL.q (oq_assign rfl) rfl rfl rfl ?_
   refine WL.nil (WE.then_normal (WC.sub (fr' := [(0, _), (1, _), (3, _), (4, _), (10, _), (11, _), (12, _), (13, _), (14, _), (15, _), (16, _)]) ?_ ⟨rfl, rfl, rfl, rfl, rfl, rfl, rfl, rfl, rfl, rfl, rfl, trivial⟩))
   refine WC.seq (WC.region ?_)
   refine WL.q (oq_move rfl) rfl rfl rfl ?_
   refine WL.q (oq_move rfl) rfl rfl rfl ?_
   refine WL.q (oq_move rfl) rfl rfl rfl ?_
   refine WL.q ((oq_mask 4 16 rfl rfl (by rw [u64_hi]; omega) (by decide) (by decide) (by decide)).to (v' := .int .u64 ((x % 16 : Nat) : Int)) (congrArg (Value.int .u64) (by omega))) rfl rfl rfl ?_
   refine WL.index_s Tryz.underlying9 rfl rfl (by first | omega | exact ⟨by omega, Int.lt_of_lt_of_le (b := 36) (by omega) (by decide)⟩) rfl rfl fun c13_4 hc13_4 hc13_4l hc13_4u => ?_
   refine WL.q (oq_ixArr (i := (i - 1)) Tryz.underlying126 ty5 rfl rfl (by first | omega | (simp only [List.length_set]; omega))) rfl rfl rfl ?_
   refine WL.storeB ty5 rfl rfl (by omega) (by first | omega | (simp only [List.length_set]; omega)) rfl ?_
   refine WL.nil (WE.then_normal (WC.sub (fr' := [(0, _), (1, _), (3, _), (4, _), (10, _), (11, _), (12, _), (13, _), (14, _), (15, _), (16, _)]) ?_ ⟨rfl, rfl, rfl, rfl, rfl, rfl, rfl, rfl, rfl, rfl, rfl, trivial⟩))
   refine WC.region ?_
   refine WL.q (oq_move rfl) rfl rfl rfl ?_
   refine WL.q (oq_move rfl) rfl rfl rfl ?_
   refine WL.q ((oq_shrl 16 rfl rfl (by decide) (by decide)).to (v' := .int .u64 ((x / 16 : Nat) : Int)) (congrArg (Value.int .u64) (by omega))) rfl rfl rfl ?_
   refine WL.q (oq_assign rfl) rfl rfl rfl ?_
   refine WL.nil (WE.block_normal ?_)
   refine WE.again (x / 16, i - 1, _) ?_ ?_ ⟨rfl, rfl, rfl, rfl, rfl, rfl, rfl, rfl, rfl, rfl, rfl, trivial⟩ (List.Perm.refl _)
   ·try dsimp only
    have hbk := uback (hc13_4.trans (hex36 (x % 16) (Nat.mod_lt _ (by decide))))
    refine ⟨by omega, by omega, by rw [List.length_set]; exact hL, ?_, ?_⟩
    ·rw [Nat.zero_add, set_drop (by omega) (by omega), hbk, ← hx1, show i - 48 = (i - 1 - 48) + 1 by omega, hexF_step (by omega)]
    ·rw [Nat.div_lt_iff_lt_mul (by decide), ← Nat.pow_succ, show (i - 1 - 49).succ = i - 49 by omega]; exact hx2
   ·(try dsimp only); omega
  ·
   try simp only [Z1, Z2, Z3, Z4, Z5, Z6, Z7, Z8, Z9, Z0] at q11
   refine WC.exit (WE.then_exit (WE.then_exit (WE.block_same (WE.then_normal (WC.sub (fr' := [(0, _), (1, _), (3, _), (4, _), (10, _), (11, _), (12, _), (13, _)]) ?_ ⟨rfl, rfl, rfl, rfl, rfl, rfl, rfl, rfl, trivial⟩)))))
   refine WC.seq (WC.region ?_)
   refine WL.q (oq_move rfl) rfl rfl rfl ?_
   refine WL.q ((oq_sub rfl rfl (by rw [i64_lo, i64_hi]; omega)).to (v' := I ((i - 1 : Nat) : Int)) (congrArg I (by omega))) rfl rfl rfl ?_
   refine WL.q (oq_assign rfl) rfl rfl rfl ?_
   refine WL.nil (WE.then_normal (WC.sub (fr' := [(0, _), (1, _), (3, _), (4, _), (10, _), (11, _), (12, _), (13, _)]) ?_ ⟨rfl, rfl, rfl, rfl, rfl, rfl, rfl, rfl, trivial⟩))
   refine WC.region ?_
   refine WL.q (oq_move rfl) rfl rfl rfl ?_
   refine WL.q (oq_move rfl) rfl rfl rfl ?_
   refine WL.index_s Tryz.underlying9 rfl rfl (by first | omega | exact ⟨by omega, Int.lt_of_lt_of_le (b := 36) (by omega) (by decide)⟩) rfl rfl fun c16_2 hc16_2 hc16_2l hc16_2u => ?_
   refine WL.q (oq_ixArr (i := (i - 1)) Tryz.underlying126 ty5 rfl rfl (by first | omega | (simp only [List.length_set]; omega))) rfl rfl rfl ?_
   refine WL.storeB ty5 rfl rfl (by omega) (by first | omega | (simp only [List.length_set]; omega)) rfl ?_
   refine WL.nil (WE.then_normal (WC.sub (fr' := [(0, _), (3, _), (4, _), (10, _), (11, _), (12, _), (13, _)]) ?_ ⟨rfl, rfl, rfl, rfl, rfl, rfl, rfl, trivial⟩))
   refine WC.seq (WC.seq (WC.region ?_))
   refine WL.q (oq_move rfl) rfl rfl rfl ?_
   refine WL.nil (WE.then_normal (WC.sub (fr' := [(0, _), (4, _), (10, _), (11, _), (12, _), (13, _), (89, _)]) ?_ ⟨rfl, rfl, rfl, rfl, rfl, rfl, rfl, trivial⟩))
   refine WC.cond_t rfl ?_
   refine WC.seq (WC.region ?_)
   refine WL.q (oq_move rfl) rfl rfl rfl ?_
   refine WL.q ((oq_sub rfl rfl (by rw [i64_lo, i64_hi]; omega)).to (v' := I ((i - 2 : Nat) : Int)) (congrArg I (by omega))) rfl rfl rfl ?_
   refine WL.q (oq_assign rfl) rfl rfl rfl ?_
   refine WL.nil (WE.then_normal (WC.sub (fr' := [(0, _), (4, _), (10, _), (11, _), (12, _), (13, _)]) ?_ ⟨rfl, rfl, rfl, rfl, rfl, rfl, trivial⟩))
   refine WC.region ?_
   refine WL.q (oq_move rfl) rfl rfl rfl ?_
   refine WL.q (oq_ixArr (i := (i - 2)) Tryz.underlying126 ty5 rfl rfl (by first | omega | (simp only [List.length_set]; omega))) rfl rfl rfl ?_
   refine WL.storeB ty5 rfl rfl (by omega) (by first | omega | (simp only [List.length_set]; omega)) rfl ?_
   refine WL.nil (WE.then_normal (WC.sub (fr' := [(0, _), (4, _), (10, _), (11, _), (12, _), (13, _)]) ?_ ⟨rfl, rfl, rfl, rfl, rfl, rfl, trivial⟩))
   refine WC.seq (WC.seq (WC.region ?_))
   refine WL.q (oq_move rfl) rfl rfl rfl ?_
   refine WL.nil (WE.then_normal (WC.sub (fr' := [(0, _), (10, _), (11, _), (12, _), (13, _), (94, _)]) ?_ ⟨rfl, rfl, rfl, rfl, rfl, rfl, trivial⟩))
   refine WC.cond_f rfl ?_
   refine WC.skip (WE.then_normal (WC.sub (fr' := [(10, _), (12, _), (13, _)]) ?_ ⟨rfl, rfl, rfl, trivial⟩))
   refine WC.seq (WC.region ?_)
   refine WL.q (oq_move rfl) rfl rfl rfl ?_
   refine WL.q (oq_sliceArr (i := (i - 2)) Tryz.underlying126 ty5 rfl ⟨_, rfl⟩ rfl (by first | omega | (simp only [List.length_set]; omega)) (by first | omega | (simp only [List.length_set]; omega))) rfl rfl rfl ?_
   refine WL.q (oq_bytesStr (Sl.rd (by first | omega | (simp only [List.length_set]; omega)) (by first | omega | (simp only [List.length_set]; omega))) (.head _) Tryz.underlying9 Tryz.underlying31 Tryz.underlying5 rfl) rfl rfl rfl ?_
   refine WL.q (oq_assign rfl) rfl rfl rfl ?_
   refine WL.nil (WE.then_normal (WC.sub (fr' := [(10, _), (11, _)]) ?_ ⟨rfl, rfl, trivial⟩))
   refine WC.ret ?_
   refine WE.lose hab ?_
   refine WE.endR (.inl rfl) (res2 Tryz.results35 rfl rfl) ?_
   have hbk := uback (hc16_2.trans (hex36 x (by omega)))
   have hd := set_drop (L := L) (i := i) (c := hx x) (by omega) (by omega)
   rw [← hbk] at hd
   have hs := set_drop (L := (L.set (i - 1) (hx x))) (i := i - 1) (c := 45) (by omega) (by rw [List.length_set]; omega)
   rw [hbk] at hd
   rw [hd, show i - 1 - 1 = i - 2 by omega] at hs
   simp only [Nat.zero_add]
   show Value.tuple #[.slice none 0 0, S (List.take (65 - (i - 2)) (List.drop (i - 2) _))] = _
   rw [show (UInt8.ofNat (Int.toNat 45)) = 45 by rfl, hbk, hs, List.take_of_length_le (by simp; omega), ← hx1, hexF_small (by omega) (by omega)]
end TG
end Go.Proofs.YtinkaobaboffcaaGreatDoor
/- A number's text. -/
namespace Go.Proofs.YtinkaobaboffcaaGreatDoor
open Go Go.RowKit V TA TB TC TD TE TF TG
set_option linter.unusedSimpArgs false
set_option linter.unusedVariables false
set_option maxRecDepth 10000
namespace TH
theorem call13 : Callable Tryz.prog 13 := ⟨_, Tryz.func13, rfl, by kernel_rfl⟩
theorem call20 : Callable Tryz.prog 20 := ⟨_, Tryz.func20, rfl, by kernel_rfl⟩
theorem call21 : Callable Tryz.prog 21 := ⟨_, Tryz.func21, rfl, by kernel_rfl⟩
theorem call35 : Callable Tryz.prog 35 := ⟨_, Tryz.func35, rfl, by kernel_rfl⟩
theorem hex_len (n : Nat) : (hex n).length ≤ 17 := by have := hexF_len 17 n []; simpa [hex] using this
theorem pad_len {w : Int} {s : List UInt8} (h : (s.length : Int) ≤ 30) (hw : w ≤ 30) : (pad w s).length ≤ 30 := by
 have key : ∀ (f : Nat) (s : List UInt8), (s.length : Int) ≤ 30 → (padF f w s).length ≤ 30 := by
  intro f
  induction f with
  | zero => intro s h; unfold padF; omega
  | succ f ih =>
   intro s h
   unfold padF
   split
   ·exact ih (48 :: s) (by rw [List.length_cons]; omega)
   ·omega
 exact key _ s h
theorem cut1 (x : UInt8) (l : List UInt8) {k : Int} (hk : k = ((x :: l).length : Int)) : cut (x :: l) 1 k = l := by
 subst hk
 unfold cut
 rw [Int.toNat_natCast, List.take_length]; rfl
theorem fu0 (m : Nat) (hm : m < 18446744073709551616) (G : Hp) (hG : Tz G) : FnR Tryz.prog 20 [.int .u64 (m : Int), I 16] G (S (hex m)) := by
 refine FnR.enter (n := 32) Tryz.func20 rfl rfl fun w0 => ?_
 refine WC.sub (fr' := [(0, _), (1, _)]) ?_ ⟨rfl, rfl, trivial⟩
 refine WC.seq (WC.region ?_)
 refine WL.q (oq_assign rfl) rfl rfl rfl ?_
 refine WL.nil (WE.then_normal (WC.sub (fr' := [(0, _), (1, _)]) ?_ ⟨rfl, rfl, trivial⟩))
 refine WC.seq (WC.seq (WC.region ?_))
 refine WL.q (oq_move rfl) rfl rfl rfl ?_
 refine WL.q ((oq_eql rfl rfl).to (v' := .bool false) (congrArg Value.bool (decide_eq_false (by omega)))) rfl rfl rfl ?_
 refine WL.nil (WE.then_normal (WC.sub (fr' := [(0, _), (1, _), (10, _)]) ?_ ⟨rfl, rfl, rfl, trivial⟩))
 refine WC.cond_f rfl ?_
 refine WC.skip (WE.then_normal (WC.sub (fr' := [(0, _), (1, _)]) ?_ ⟨rfl, rfl, trivial⟩))
 refine WC.seq (WC.region ?_)
 refine WL.q (oq_move rfl) rfl rfl rfl ?_
 refine WL.q (oq_move rfl) rfl rfl rfl ?_
 refine WL.qc (oq_callRm (fbitsP m hm G hG) (.head _) call35 rfl) rfl rfl rfl ?_
 refine WL.q (oq_move rfl) rfl rfl rfl ?_
 refine WL.q (oq_extract rfl rfl) rfl rfl rfl ?_
 refine WL.q (oq_extract rfl rfl) rfl rfl rfl ?_
 refine WL.q (oq_assign rfl) rfl rfl rfl ?_
 refine WL.q (oq_assign rfl) rfl rfl rfl ?_
 refine WL.nil (WE.then_normal (WC.sub (fr' := [(8, _)]) ?_ ⟨rfl, trivial⟩))
 refine WC.seq (WC.region ?_)
 refine WL.q (oq_move rfl) rfl rfl rfl ?_
 refine WL.q (oq_assign rfl) rfl rfl rfl ?_
 refine WL.nil (WE.then_normal (WC.sub (fr' := [(4, _)]) ?_ ⟨rfl, trivial⟩))
 refine WC.ret ?_
 refine WE.endR (.inl rfl) (res1 Tryz.results20 rfl) ?_
 rfl
theorem fmtU (m : Nat) (hm : m < 18446744073709551616) (G : Hp) (hG : Tz G) : FnR Tryz.prog 11 [.int .u64 (m : Int), I 16] G (S (hex m)) := by
 refine FnR.enter (n := 8) Tryz.func11 rfl rfl fun w0 => ?_
 refine WC.sub (fr' := [(0, _), (1, _)]) ?_ ⟨rfl, rfl, trivial⟩
 refine WC.seq (WC.region ?_)
 refine WL.q (oq_assign rfl) rfl rfl rfl ?_
 refine WL.nil (WE.then_normal (WC.sub (fr' := [(0, _), (1, _)]) ?_ ⟨rfl, rfl, trivial⟩))
 refine WC.seq (WC.region ?_)
 refine WL.q (oq_move rfl) rfl rfl rfl ?_
 refine WL.q (oq_move rfl) rfl rfl rfl ?_
 refine WL.qc (oq_callRm (fu0 m hm G hG) (.head _) call20 rfl) rfl rfl rfl ?_
 refine WL.q (oq_assign rfl) rfl rfl rfl ?_
 refine WL.nil (WE.then_normal (WC.sub (fr' := [(4, _)]) ?_ ⟨rfl, trivial⟩))
 refine WC.ret ?_
 refine WE.endR (.inl rfl) (res1 Tryz.results11 rfl) ?_
 rfl
theorem fi0p (m : Nat) (hm2 : m ≤ 9223372036854775807) (G : Hp) (hG : Tz G) : FnR Tryz.prog 21 [I (m : Int), I 16] G (S (hex m)) := by
 have hm : m < 18446744073709551616 := by omega
 refine FnR.enter (n := 54) Tryz.func21 rfl rfl fun w0 => ?_
 refine WC.sub (fr' := [(0, _), (1, _)]) ?_ ⟨rfl, rfl, trivial⟩
 refine WC.seq (WC.region ?_)
 refine WL.q (oq_assign rfl) rfl rfl rfl ?_
 refine WL.nil (WE.then_normal (WC.sub (fr' := [(0, _), (1, _)]) ?_ ⟨rfl, rfl, trivial⟩))
 refine WC.seq (WC.seq (WC.region ?_))
 refine WL.q (oq_move rfl) rfl rfl rfl ?_
 refine WL.q ((oq_eql rfl rfl).to (v' := .bool false) (congrArg Value.bool (decide_eq_false (by omega)))) rfl rfl rfl ?_
 refine WL.nil (WE.then_normal (WC.sub (fr' := [(0, _), (1, _), (11, _)]) ?_ ⟨rfl, rfl, rfl, trivial⟩))
 refine WC.cond_f rfl ?_
 refine WC.skip (WE.then_normal (WC.sub (fr' := [(0, _), (1, _)]) ?_ ⟨rfl, rfl, trivial⟩))
 refine WC.seq (WC.region ?_)
 refine WL.q (oq_move rfl) rfl rfl rfl ?_
 refine WL.q (oq_conv Tryz.underlying2 Tryz.underlying40 rfl (by rw [u64_lo, u64_hi]; omega)) rfl rfl rfl ?_
 refine WL.q (oq_move rfl) rfl rfl rfl ?_
 refine WL.q (oq_move rfl) rfl rfl rfl ?_
 refine WL.q ((oq_lss rfl rfl).to (v' := .bool false) (congrArg Value.bool (decide_eq_false (by omega)))) rfl rfl rfl ?_
 refine WL.qc (oq_callRm (fbitsP m hm G hG) (.head _) call35 rfl) rfl rfl rfl ?_
 refine WL.q (oq_move rfl) rfl rfl rfl ?_
 refine WL.q (oq_extract rfl rfl) rfl rfl rfl ?_
 refine WL.q (oq_extract rfl rfl) rfl rfl rfl ?_
 refine WL.q (oq_assign rfl) rfl rfl rfl ?_
 refine WL.q (oq_assign rfl) rfl rfl rfl ?_
 refine WL.nil (WE.then_normal (WC.sub (fr' := [(9, _)]) ?_ ⟨rfl, trivial⟩))
 refine WC.seq (WC.region ?_)
 refine WL.q (oq_move rfl) rfl rfl rfl ?_
 refine WL.q (oq_assign rfl) rfl rfl rfl ?_
 refine WL.nil (WE.then_normal (WC.sub (fr' := [(4, _)]) ?_ ⟨rfl, trivial⟩))
 refine WC.ret ?_
 refine WE.endR (.inl rfl) (res1 Tryz.results21 rfl) ?_
 rfl
theorem fi0n (m : Nat) (hm2 : m ≤ 9223372036854775808) (hm0 : 0 < m) (G : Hp) (hG : Tz G) : FnR Tryz.prog 21 [I (-(m : Int)), I 16] G (S (45 :: hex m)) := by
 have hm : m < 18446744073709551616 := by omega
 refine FnR.enter (n := 54) Tryz.func21 rfl rfl fun w0 => ?_
 refine WC.sub (fr' := [(0, _), (1, _)]) ?_ ⟨rfl, rfl, trivial⟩
 refine WC.seq (WC.region ?_)
 refine WL.q (oq_assign rfl) rfl rfl rfl ?_
 refine WL.nil (WE.then_normal (WC.sub (fr' := [(0, _), (1, _)]) ?_ ⟨rfl, rfl, trivial⟩))
 refine WC.seq (WC.seq (WC.region ?_))
 refine WL.q (oq_move rfl) rfl rfl rfl ?_
 refine WL.q ((oq_eql rfl rfl).to (v' := .bool false) (congrArg Value.bool (decide_eq_false (by omega)))) rfl rfl rfl ?_
 refine WL.nil (WE.then_normal (WC.sub (fr' := [(0, _), (1, _), (11, _)]) ?_ ⟨rfl, rfl, rfl, trivial⟩))
 refine WC.cond_f rfl ?_
 refine WC.skip (WE.then_normal (WC.sub (fr' := [(0, _), (1, _)]) ?_ ⟨rfl, rfl, trivial⟩))
 refine WC.seq (WC.region ?_)
 refine WL.q (oq_move rfl) rfl rfl rfl ?_
 refine WL.q (oq_convw Tryz.underlying2 Tryz.underlying40 rfl) rfl rfl rfl ?_
 refine WL.q (oq_move rfl) rfl rfl rfl ?_
 refine WL.q (oq_move rfl) rfl rfl rfl ?_
 refine WL.q ((oq_lss rfl rfl).to (v' := .bool true) (congrArg Value.bool (decide_eq_true (by omega)))) rfl rfl rfl ?_
 refine WL.qc (oq_callRm (fbitsN m hm G hG) (.head _) call35 rfl) rfl rfl rfl ?_
 refine WL.q (oq_move rfl) rfl rfl rfl ?_
 refine WL.q (oq_extract rfl rfl) rfl rfl rfl ?_
 refine WL.q (oq_extract rfl rfl) rfl rfl rfl ?_
 refine WL.q (oq_assign rfl) rfl rfl rfl ?_
 refine WL.q (oq_assign rfl) rfl rfl rfl ?_
 refine WL.nil (WE.then_normal (WC.sub (fr' := [(9, _)]) ?_ ⟨rfl, trivial⟩))
 refine WC.seq (WC.region ?_)
 refine WL.q (oq_move rfl) rfl rfl rfl ?_
 refine WL.q (oq_assign rfl) rfl rfl rfl ?_
 refine WL.nil (WE.then_normal (WC.sub (fr' := [(4, _)]) ?_ ⟨rfl, trivial⟩))
 refine WC.ret ?_
 refine WE.endR (.inl rfl) (res1 Tryz.results21 rfl) ?_
 rfl
theorem fi0 (n : Int) (h1 : -9223372036854775808 ≤ n) (h2 : n ≤ 9223372036854775807) (G : Hp) (hG : Tz G) : FnR Tryz.prog 21 [I n, I 16] G (S (if n < 0 then 45 :: hex n.natAbs else hex n.natAbs)) := by
 by_cases h : n < 0
 ·rw [if_pos h]
  have := fi0n n.natAbs (by omega) (by omega) G hG
  rwa [show (-(n.natAbs : Int)) = n by omega] at this
 ·rw [if_neg h]
  have := fi0p n.natAbs (by omega) G hG
  rwa [show ((n.natAbs : Nat) : Int) = n by omega] at this
theorem fmtI (n : Int) (h1 : -9223372036854775808 ≤ n) (h2 : n ≤ 9223372036854775807) (G : Hp) (hG : Tz G) : FnR Tryz.prog 13 [I n, I 16] G (S (if n < 0 then 45 :: hex n.natAbs else hex n.natAbs)) := by
 refine FnR.enter (n := 8) Tryz.func13 rfl rfl fun w0 => ?_
 refine WC.sub (fr' := [(0, _), (1, _)]) ?_ ⟨rfl, rfl, trivial⟩
 refine WC.seq (WC.region ?_)
 refine WL.q (oq_assign rfl) rfl rfl rfl ?_
 refine WL.nil (WE.then_normal (WC.sub (fr' := [(0, _), (1, _)]) ?_ ⟨rfl, rfl, trivial⟩))
 refine WC.seq (WC.region ?_)
 refine WL.q (oq_move rfl) rfl rfl rfl ?_
 refine WL.q (oq_move rfl) rfl rfl rfl ?_
 refine WL.qc (oq_callRm (fi0 n h1 h2 G hG) (.head _) call21 rfl) rfl rfl rfl ?_
 refine WL.q (oq_assign rfl) rfl rfl rfl ?_
 refine WL.nil (WE.then_normal (WC.sub (fr' := [(4, _)]) ?_ ⟨rfl, trivial⟩))
 refine WC.ret ?_
 refine WE.endR (.inl rfl) (res1 Tryz.results13 rfl) ?_
 rfl
theorem zzPadded (n w : Int) (h1 : -9223372036854775808 ≤ n) (h2 : n ≤ 9223372036854775807) (hw : 0 ≤ w ∧ w ≤ 16) (G : Hp) (hG : Tz G) : FnR Tryz.prog 77 [I n, I w] G (S (hexI n w)) := by
 have hhl := hex_len n.natAbs
 refine FnR.enter (n := 24) Tryz.func77 rfl rfl fun w0 => ?_
 refine WC.sub (fr' := [(0, _), (1, _)]) ?_ ⟨rfl, rfl, trivial⟩
 refine WC.seq (WC.region ?_)
 refine WL.q (oq_assign rfl) rfl rfl rfl ?_
 refine WL.nil (WE.then_normal (WC.sub (fr' := [(0, _), (1, _)]) ?_ ⟨rfl, rfl, trivial⟩))
 refine WC.seq (WC.region ?_)
 refine WL.q (oq_move rfl) rfl rfl rfl ?_
 refine WL.qc (oq_callRm (fmtI n h1 h2 G hG) (.head _) call13 rfl) rfl rfl rfl ?_
 refine WL.q (oq_assign rfl) rfl rfl rfl ?_
 refine WL.q (oq_assign rfl) rfl rfl rfl ?_
 refine WL.nil (WE.then_normal (WC.sub (fr' := [(0, _), (1, _), (5, _), (6, _)]) ?_ ⟨rfl, rfl, rfl, rfl, trivial⟩))
 refine WC.cut (ι := (List UInt8) × (List UInt8) × Int) (fun i_ => (fun (s : List UInt8) (sg : List UInt8) (w2 : Int) => [(1, I w2), (5, S s), (6, S sg)]) i_.1 i_.2.1 i_.2.2) (fun i_ => (fun (s : List UInt8) (sg : List UInt8) (w2 : Int) => [G]) i_.1 i_.2.1 i_.2.2) (fun i_ => (fun (s : List UInt8) (sg : List UInt8) (w2 : Int) => sg ++ pad w2 s = hexI n w ∧ s.length ≤ 17 ∧ w2 ≤ 16 ∧ sg.length ≤ 1) i_.1 i_.2.1 i_.2.2) ?_ ?_
 ·
  refine WC.seq (WC.region ?_)
  refine WL.q (oq_move rfl) rfl rfl rfl ?_
  refine WL.q (oq_lss rfl rfl) rfl rfl rfl ?_
  refine WL.nil (WE.then_normal (WC.sub (fr' := [(1, _), (5, _), (6, _), (10, _)]) ?_ ⟨rfl, rfl, rfl, rfl, trivial⟩))
  refine WC.cond rfl (fun q2 => ?_) (fun q2 => ?_)
  ·
   try simp only [Z1, Z2, Z3, Z4, Z5, Z6, Z7, Z8, Z9, Z0] at q2
   refine WC.region ?_
   refine WL.q (oq_move rfl) rfl rfl rfl ?_
   rw [if_pos q2]
   have hcl : (45 :: hex n.natAbs).length = (hex n.natAbs).length + 1 := rfl
   refine WL.q (oq_slice_s1 Tryz.underlying9 rfl rfl (by (first | omega | (simp only [List.length_cons, List.length_nil, List.length_append, List.length_drop, List.length_take]; omega)))) rfl rfl rfl ?_
   refine WL.q (oq_move rfl) rfl rfl rfl ?_
   refine WL.q (oq_sub rfl rfl (by rw [i64_lo, i64_hi]; (first | omega | (simp only [List.length_cons, List.length_nil, List.length_append, List.length_drop, List.length_take]; omega)))) rfl rfl rfl ?_
   refine WL.q (oq_assign rfl) rfl rfl rfl ?_
   refine WL.q (oq_assign rfl) rfl rfl rfl ?_
   refine WL.q (oq_assign rfl) rfl rfl rfl ?_
   refine WL.nil ?_
   refine WE.meet (hex n.natAbs, [45], w - 1) ?_ ⟨rfl, (gtv rfl (by first | rfl | (rw [if_neg (by omega)]) | (show S (cut (45 :: hex n.natAbs) 1 _) = _; rw [cut1]))), rfl, trivial⟩ (List.Perm.refl _)
   try dsimp only
   exact ⟨by unfold hexI; rw [if_pos (by omega), if_pos (by omega)], hhl, by omega, by decide⟩
  ·
   try simp only [Z1, Z2, Z3, Z4, Z5, Z6, Z7, Z8, Z9, Z0] at q2
   refine WC.skip ?_
   refine WE.meet (hex n.natAbs, [], w) ?_ ⟨rfl, (gtv rfl (by first | rfl | (rw [if_neg (by omega)]) | (show S (cut (45 :: hex n.natAbs) 1 _) = _; rw [cut1]))), rfl, trivial⟩ (List.Perm.refl _)
   try dsimp only
   exact ⟨by unfold hexI; rw [if_neg (by omega), if_neg (by omega)], hhl, by omega, by decide⟩
 ·rintro ⟨s, sg, w2⟩ hp
  try dsimp only at hp
  obtain ⟨hs1, hs2, hs3, hs4⟩ := hp
  show WC _ _ _ _ _ _ ([(1, I w2), (5, S s), (6, S sg)]) ([G])
  refine WC.seq (WC.block ?_)
  refine WC.loop (ι := (List UInt8)) (fun (t : List UInt8) => [(1, I w2), (5, S t), (6, S sg)]) (fun (t : List UInt8) => [G]) (fun (t : List UInt8) => pad w2 t = pad w2 s ∧ t.length ≤ 20) (fun (t : List UInt8) => 20 - t.length) (s) ?_ ⟨rfl, rfl, rfl, trivial⟩ (List.Perm.refl _) ?_
  ·try dsimp only
   exact ⟨rfl, by omega⟩
  ·rintro t hp
   try dsimp only at hp
   obtain ⟨ht1, ht2⟩ := hp
   show WC _ _ _ _ _ _ ([(1, I w2), (5, S t), (6, S sg)]) ([G])
   refine WC.seq (WC.seq (WC.region ?_))
   refine WL.q (oq_move rfl) rfl rfl rfl ?_
   refine WL.q (oq_len_s Tryz.underlying9 rfl) rfl rfl rfl ?_
   refine WL.q (oq_move rfl) rfl rfl rfl ?_
   refine WL.q (oq_lss rfl rfl) rfl rfl rfl ?_
   refine WL.nil (WE.then_normal (WC.sub (fr' := [(1, _), (5, _), (6, _), (18, _)]) ?_ ⟨rfl, rfl, rfl, rfl, trivial⟩))
   refine WC.cond rfl (fun q4 => ?_) (fun q4 => ?_)
   ·
    try simp only [Z1, Z2, Z3, Z4, Z5, Z6, Z7, Z8, Z9, Z0] at q4
    refine WC.skip (WE.then_normal (WC.sub (fr' := [(1, _), (5, _), (6, _)]) ?_ ⟨rfl, rfl, rfl, trivial⟩))
    refine WC.block (WC.region ?_)
    refine WL.q (oq_move rfl) rfl rfl rfl ?_
    refine WL.q (oq_concat rfl rfl (by (first | omega | (simp only [List.length_cons, List.length_nil, List.length_append, List.length_drop, List.length_take]; omega)))) rfl rfl rfl ?_
    refine WL.q (oq_assign rfl) rfl rfl rfl ?_
    refine WL.nil (WE.block_normal ?_)
    refine WE.again (48 :: t) ?_ ?_ ⟨rfl, rfl, rfl, trivial⟩ (List.Perm.refl _)
    ·try dsimp only
     refine ⟨by rw [← ht1]; exact (pad_step (by omega)).symm, by rw [List.length_cons]; omega⟩
    ·(try dsimp only); rw [List.length_cons]; omega
   ·
    try simp only [Z1, Z2, Z3, Z4, Z5, Z6, Z7, Z8, Z9, Z0] at q4
    refine WC.exit (WE.then_exit (WE.then_exit (WE.block_same (WE.then_normal (WC.sub (fr' := [(5, _), (6, _)]) ?_ ⟨rfl, rfl, trivial⟩)))))
    refine WC.seq (WC.region ?_)
    refine WL.q (oq_move rfl) rfl rfl rfl ?_
    refine WL.q (oq_move rfl) rfl rfl rfl ?_
    refine WL.q (oq_concat rfl rfl (by (first | omega | (simp only [List.length_cons, List.length_nil, List.length_append, List.length_drop, List.length_take]; omega)))) rfl rfl rfl ?_
    refine WL.q (oq_assign rfl) rfl rfl rfl ?_
    refine WL.nil (WE.then_normal (WC.sub (fr' := [(4, _)]) ?_ ⟨rfl, trivial⟩))
    refine WC.ret ?_
    refine WE.endR (.inl rfl) (res1 Tryz.results77 rfl) ?_
    rw [← ht1, pad_done (by omega)] at hs1
    exact congrArg S hs1
end TH
end Go.Proofs.YtinkaobaboffcaaGreatDoor
/- The shelf's contract of strconv.FormatInt at base 10 at this program, printed by the kit's lay-plain.mjs out of the laying that lay-shelf.mjs wrote. -/
namespace Go.Proofs
open Go.Shelf
def Tryz.laysM173_ren : Go.Shelf.Ren := ⟨fun | 173 => 13 | 246 => 21 | 283 => 32 | 284 => 33 | 285 => 34 | 286 => 35 | 129 => 40 | 317 => 39 | 318 => 41 | 319 => 42 | 320 => 43 | 337 => 44 | 338 => 45 | n => n, fun | 2 => 2 | 3 => 3 | 9 => 9 | 4 => 4 | 171 => 98 | 0 => 0 | 53 => 40 | 37 => 31 | 5 => 5 | 173 => 101 | 212 => 125 | 51 => 82 | 20 => 20 | 213 => 126 | 46 => 74 | 232 => 142 | 233 => 143 | n => n, fun | 17 => 0 | 18 => 4 | 19 => 5 | n => n⟩
theorem Tryz.laysM173 : Go.Proofs.LaysM.n173 Tryz.prog Tryz.laysM173_ren := {
 mixed := by kernel_rfl
 f129 := Tryz.func40.trans (congrArg some (by kernel_rfl))
 f173 := Tryz.func13.trans (congrArg some (by kernel_rfl))
 f246 := Tryz.func21.trans (congrArg some (by kernel_rfl))
 f283 := Tryz.func32.trans (congrArg some (by kernel_rfl))
 f284 := Tryz.func33.trans (congrArg some (by kernel_rfl))
 f285 := Tryz.func34.trans (congrArg some (by kernel_rfl))
 f286 := Tryz.func35.trans (congrArg some (by kernel_rfl))
 f317 := Tryz.func39.trans (congrArg some (by kernel_rfl))
 f318 := Tryz.func41.trans (congrArg some (by kernel_rfl))
 f319 := Tryz.func42.trans (congrArg some (by kernel_rfl))
 f320 := Tryz.func43.trans (congrArg some (by kernel_rfl))
 f337 := Tryz.func44.trans (congrArg some (by kernel_rfl))
 f338 := Tryz.func45.trans (congrArg some (by kernel_rfl))
 t0 := Tryz.underlying0
 a0 := Tryz.isAgg0
 z0 := Tryz.sizeOf0
 v0 := Tryz.zeroValue0
 t2 := Tryz.underlying2
 a2 := Tryz.isAgg2
 z2 := Tryz.sizeOf2
 v2 := Tryz.zeroValue2
 t3 := Tryz.underlying3
 a3 := Tryz.isAgg3
 z3 := Tryz.sizeOf3
 v3 := Tryz.zeroValue3
 t4 := Tryz.underlying4
 a4 := Tryz.isAgg4
 z4 := Tryz.sizeOf4
 v4 := Tryz.zeroValue4
 t5 := Tryz.underlying5
 a5 := Tryz.isAgg5
 z5 := Tryz.sizeOf5
 v5 := Tryz.zeroValue5
 t9 := Tryz.underlying9
 a9 := Tryz.isAgg9
 z9 := Tryz.sizeOf9
 v9 := Tryz.zeroValue9
 t20 := Tryz.underlying20
 a20 := Tryz.isAgg20
 z20 := Tryz.sizeOf20
 v20 := Tryz.zeroValue20
 t37 := Tryz.underlying31
 a37 := Tryz.isAgg31
 z37 := Tryz.sizeOf31
 v37 := Tryz.zeroValue31
 t46 := Tryz.underlying74
 a46 := Tryz.isAgg74
 z46 := Tryz.sizeOf74
 v46 := Tryz.zeroValue74
 t51 := Tryz.underlying82
 a51 := Tryz.isAgg82
 z51 := Tryz.sizeOf82
 v51 := Tryz.zeroValue82
 t53 := Tryz.underlying40
 a53 := Tryz.isAgg40
 z53 := Tryz.sizeOf40
 v53 := Tryz.zeroValue40
 t171 := Tryz.underlying98
 a171 := Tryz.isAgg98
 z171 := Tryz.sizeOf98
 v171 := Tryz.zeroValue98
 t173 := Tryz.underlying101
 a173 := Tryz.isAgg101
 z173 := Tryz.sizeOf101
 v173 := Tryz.zeroValue101
 t212 := Tryz.underlying125
 a212 := Tryz.isAgg125
 z212 := Tryz.sizeOf125
 v212 := Tryz.zeroValue125
 t213 := Tryz.underlying126
 a213 := Tryz.isAgg126
 z213 := Tryz.sizeOf126
 t232 := Tryz.underlying142
 a232 := Tryz.isAgg142
 z232 := Tryz.sizeOf142
 v232 := Tryz.zeroValue142
 t233 := Tryz.underlying143
 a233 := Tryz.isAgg143
 z233 := Tryz.sizeOf143
 v233 := Tryz.zeroValue143
 g17 := by kernel_rfl
 g18 := by kernel_rfl
 g19 := by kernel_rfl
 i0 := by kernel_rfl
 i2 := by kernel_rfl
 i3 := by kernel_rfl
 i4 := by kernel_rfl
 i5 := by kernel_rfl
 i9 := by kernel_rfl
 i20 := by kernel_rfl
 i37 := by kernel_rfl
 i46 := by kernel_rfl
 i51 := by kernel_rfl
 i53 := by kernel_rfl
 i171 := by kernel_rfl
 i173 := by kernel_rfl
 i212 := by kernel_rfl
 i232 := by kernel_rfl
 i233 := by kernel_rfl
 m17 := by kernel_rfl
 m18 := by kernel_rfl
 m19 := by kernel_rfl }
open Go.RowKit Go.Sort Go.Lib in
theorem Tryz.strconv_FormatInt_10 (n : Int) (h0 : -9223372036854775808 ≤ n) (h1 : n ≤ 9223372036854775807) (w : World) (htab : Lib.TabIs Tryz.prog w "internal/strconv.uint64pow10" .u64 Lib.pow10Tab) :
  Calls Tryz.prog 13 #[.int .i64 n, .int .i64 10] w fun e w' => e = .returned (.string ⟨(Lib.itoa n).toArray⟩) ∧ ∃ k os, w' = grow (w.drewN k) os := Any.strconv_FormatInt_10 Tryz.laysM173 n h0 h1 w htab
end Go.Proofs
/- Writers. -/
namespace Go.Proofs.YtinkaobaboffcaaGreatDoor
open Go Go.RowKit V EA EB EC
set_option linter.unusedSimpArgs false
set_option linter.unusedVariables false
set_option maxRecDepth 10000
namespace ED
theorem call23 : Callable Tryz.prog 23 := ⟨_, Tryz.func23, rfl, by kernel_rfl⟩
theorem call26 : Callable Tryz.prog 26 := ⟨_, Tryz.func26, rfl, by kernel_rfl⟩
theorem call38 : Callable Tryz.prog 38 := ⟨_, Tryz.func38, rfl, by kernel_rfl⟩
theorem flat3 : Flat Tryz.prog 3 := ⟨_, Tryz.underlying3, by simp⟩
theorem flat31 : Flat Tryz.prog 31 := ⟨_, Tryz.underlying31, by simp⟩
theorem flat79 : Flat Tryz.prog 79 := ⟨_, Tryz.underlying79, by simp⟩
theorem flat109 : Flat Tryz.prog 109 := ⟨_, Tryz.underlying109, by simp⟩
theorem ty3 : Ty Tryz.prog 3 (.int .i64 0) 1 8 := ty_of (by kernel_rfl)
theorem ty5 : Ty Tryz.prog 5 (.int .u8 0) 1 1 := ty_of (by kernel_rfl)
theorem ty31 : Ty Tryz.prog 31 (.slice none 0 0) 1 24 := ty_of (by kernel_rfl)
theorem ty45 : Ty Tryz.prog 45 (.int .i8 0) 1 1 := ty_of (by kernel_rfl)
theorem ty47 : Ty Tryz.prog 47 (.agg #[(.slice none 0 0), (.int .i64 0), (.int .i8 0)]) 3 40 := ty_of (by kernel_rfl)
theorem ty79 : Ty Tryz.prog 79 .nilIface 1 16 := ty_of (by kernel_rfl)
theorem ty109 : Ty Tryz.prog 109 (.slice none 0 0) 1 24 := ty_of (by kernel_rfl)
theorem str47 : Str Tryz.prog 47 #[(0, 1), (1, 1), (2, 1)] := ⟨_, Tryz.underlying47, fun w => by kernel_rfl⟩
theorem fld47_0 : Fld Tryz.prog 47 0 0 31 := fld_of Tryz.underlying47 rfl rfl rfl ty31 (by decide)
theorem fld47_1 : Fld Tryz.prog 47 1 1 3 := fld_of Tryz.underlying47 rfl rfl rfl ty3 (by decide)
theorem fld47_2 : Fld Tryz.prog 47 2 2 45 := fld_of Tryz.underlying47 rfl rfl rfl ty45 (by decide)
theorem fld113_0 : Fld Tryz.prog 113 0 0 109 := fld_of Tryz.underlying113 rfl rfl rfl ty109 (by decide)
structure Wr (base : Nat) (k : TypeId) (r : Value) (f : FuncId) (Wt : List UInt8 → Hp → Prop) : Prop where
 inv : Inv1 Tryz.prog k "Write" f
 nok : NilOk Tryz.prog k r "Write"
 run : ∀ (acc : List UInt8) (G : Hp) (s : Value) (C : Hp) (data : List UInt8), Wt acc G → RdS 1 s C data.length (bytesV data) → acc.length + data.length ≤ 400000 → 0 < acc.length + data.length →
  FnW Tryz.prog f [r, s] base [G, C] (fun w Hs => ∃ G', w = .tuple #[I (data.length : Int), .nilIface] ∧ Hs = [G', C] ∧ Wt (acc ++ data) G')
def BufG (base bb : Nat) (acc : List UInt8) (G : Hp) : Prop := ∃ v lr A, G = BB bb v lr ++ A ∧ Buf base v A acc
theorem invBW : Inv1 Tryz.prog 53 "Write" 64 := fun x a w => by kernel_rfl
theorem invBT : Inv1 Tryz.prog 53 "WriteTo" 65 := fun x a w => by kernel_rfl
theorem invCW : Inv1 Tryz.prog 81 "Write" 124 := fun x a w => by kernel_rfl
theorem invMW : Inv1 Tryz.prog 110 "Write" 126 := fun x a w => by kernel_rfl
theorem nokBW (p : Addr) : NilOk Tryz.prog 53 (.pointer (some p)) "Write" := fun w => by kernel_rfl
theorem nokMW (p : Addr) : NilOk Tryz.prog 110 (.pointer (some p)) "Write" := fun w => by kernel_rfl
theorem askBT : AskYes Tryz.prog 53 130 := fun x u w => by kernel_rfl
theorem bufWr (base bb : Nat) : Wr base 53 (Pt bb 0) 64 (BufG base bb) := by
 refine ⟨invBW, nokBW _, ?_⟩
 rintro acc G s C data ⟨v, lr, A, rfl, hb⟩ hr hl h0 w0 R0 w hbase hw
 refine (bufWrite base bb lr v A acc data hb s C hr (by omega) h0 w0 R0 w hbase (by simpa using hw)).mono ?_
 rintro e w' ⟨u, Hs, he, ⟨v2, A2, rfl, rfl, hb2⟩, hst⟩
 exact ⟨_, [BB bb v2 0 ++ A2, C], he, ⟨_, rfl, rfl, v2, 0, A2, rfl, hb2⟩, by simpa using hst⟩
def MwStep (base : Nat) (ws : List Value) (s : Value) (C : Hp) (n : Nat) (St2 : Nat → Hp → Prop) : Prop :=
 ∀ i, i < ws.length → ∃ k r f, ws[((i : Nat) : Int).toNat]? = some (.iface k r) ∧ Inv1 Tryz.prog k "Write" f ∧ ∀ G, St2 i G → FnW Tryz.prog f [r, s] base [G, C] (fun w Hs => ∃ G', w = .tuple #[I (n : Int), .nilIface] ∧ Hs = [G', C] ∧ St2 (i + 1) G')
theorem mwWrite (base mb : Nat) (v : Value) (Ws : Hp) (ws : List Value) (hrw : RdS 1 v Ws ws.length ws) (hn : ws.length ≤ 1000) (s : Value) (C : Hp) (l : List UInt8) (hr : RdS 1 s C l.length (bytesV l)) (hl : l.length ≤ 1000000) (St2 : Nat → Hp → Prop) (hstep : MwStep base ws s C l.length St2) (G : Hp) (hG : St2 0 G) : FnW Tryz.prog 126 [Pt mb 0, s] base [[(mb, .cells #[v] 113 (0, 0))], Ws, G, C] (fun w Hs => ∃ G2, w = .tuple #[I (l.length : Int), .nilIface] ∧ Hs = [[(mb, .cells #[v] 113 (0, 0))], Ws, G2, C] ∧ St2 ws.length G2) := by
 refine FnW.enter (n := 33) Tryz.func126 rfl rfl fun w0 R0 hbase => ?_
 subst hbase
 show WC _ _ _ _ _ _ _ ([[(mb, .cells #[v] 113 (0, 0))], Ws, G, C, R0])
 refine WC.sub (fr' := [(0, _), (1, _)]) ?_ ⟨rfl, rfl, trivial⟩
 refine WC.seq (WC.region ?_)
 refine WL.q (oq_assign rfl) rfl rfl rfl ?_
 refine WL.q (oq_assign rfl) rfl rfl rfl ?_
 refine WL.nil (WE.then_normal (WC.sub (fr' := [(0, _), (1, _)]) ?_ ⟨rfl, rfl, trivial⟩))
 refine WC.seq (WC.seq (WC.region ?_))
 refine WL.q (oq_move rfl) rfl rfl rfl ?_
 refine WL.q (oq_nilCheck rfl) rfl rfl rfl ?_
 refine WL.q (oq_fieldAddr fld113_0 rfl) rfl rfl rfl ?_
 refine WL.q (oq_load flat109 rfl (.head _) (List.mem_singleton.2 rfl) rfl) rfl rfl rfl ?_
 refine WL.q (oq_len_rd hrw Tryz.underlying109 rfl) rfl rfl rfl ?_
 refine WL.q (oq_move rfl) rfl rfl rfl ?_
 refine WL.nil (WE.then_normal (WC.sub (fr' := [(1, _), (11, _), (12, _), (13, _)]) ?_ ⟨rfl, rfl, rfl, rfl, trivial⟩))
 refine WC.block ?_
 refine WC.loop (ι := Nat × Hp) (fun i_ => (fun (i : Nat) (X : Hp) => [(1, s), (11, v), (12, I (ws.length : Int)), (13, I (i : Int))]) i_.1 i_.2) (fun i_ => (fun (i : Nat) (X : Hp) => [[(mb, .cells #[v] 113 (0, 0))], Ws, X, C, R0]) i_.1 i_.2) (fun i_ => (fun (i : Nat) (X : Hp) => i ≤ ws.length ∧ St2 i X) i_.1 i_.2) (fun i_ => (fun (i : Nat) (X : Hp) => ws.length - i) i_.1 i_.2) ((0, G)) ?_ ⟨rfl, rfl, rfl, rfl, trivial⟩ (List.Perm.refl _) ?_
 ·try dsimp only
  exact ⟨by omega, hG⟩
 ·rintro ⟨i, X⟩ hp
  try dsimp only at hp
  obtain ⟨hi, hX⟩ := hp
  show WC _ _ _ _ _ _ ([(1, s), (11, v), (12, I (ws.length : Int)), (13, I (i : Int))]) ([[(mb, .cells #[v] 113 (0, 0))], Ws, X, C, R0])
  refine WC.seq (WC.region ?_)
  refine WL.q (oq_lss rfl rfl) rfl rfl rfl ?_
  refine WL.nil (WE.then_normal (WC.sub (fr' := [(1, _), (11, _), (12, _), (13, _), (14, _)]) ?_ ⟨rfl, rfl, rfl, rfl, rfl, trivial⟩))
  refine WC.seq ?_
  refine WC.cond rfl (fun q2 => ?_) (fun q2 => ?_)
  ·
   try simp only [Z1, Z2, Z3, Z4, Z5, Z6, Z7, Z8, Z9, Z0] at q2
   refine WC.skip (WE.then_normal (WC.sub (fr' := [(1, _), (11, _), (12, _), (13, _)]) ?_ ⟨rfl, rfl, rfl, rfl, trivial⟩))
   refine WC.seq (WC.block (WC.seq ?_))
   obtain ⟨k, r, f, hwi, hinv, hrun⟩ := hstep i (by omega)
   refine WC.region ?_
   refine WL.q (oq_ixaddr hrw Tryz.underlying109 ty79 rfl rfl (by (first | omega | (simp only [List.length_cons, List.length_nil, List.length_append, List.length_drop, List.length_take]; omega)))) rfl rfl rfl ?_
   refine WL.q (oq_load_el hrw (by repeat (first | exact .head _ | apply List.Mem.tail)) flat79 rfl (by omega) hwi) rfl rfl rfl ?_
   refine WL.q (oq_assign rfl) rfl rfl rfl ?_
   refine WL.nil (WE.then_normal (WC.sub (fr' := [(1, _), (7, _), (11, _), (12, _), (13, _)]) ?_ ⟨rfl, rfl, rfl, rfl, rfl, trivial⟩))
   refine WC.seq (WC.region ?_)
   refine WL.q (oq_move rfl) rfl rfl rfl ?_
   refine WL.q (oq_move rfl) rfl rfl rfl ?_
   refine WL.f3 ?_
   refine WL.f3 ?_
   refine WL.callWE (fun a w hf => ent_inv1 hinv rfl rfl hf w) (hrun X hX) rfl rfl rfl rfl fun v4_2 Hs4_2 hR4_2 => ?_
   obtain ⟨X2, rfl, rfl, hX2⟩ := hR4_2
   refine WL.app2 ?_
   refine WL.q (oq_move rfl) rfl rfl rfl ?_
   refine WL.q (oq_extract rfl rfl) rfl rfl rfl ?_
   refine WL.q (oq_extract rfl rfl) rfl rfl rfl ?_
   refine WL.q (oq_assign rfl) rfl rfl rfl ?_
   refine WL.q (oq_assign rfl) rfl rfl rfl ?_
   refine WL.nil (WE.then_normal (WC.sub (fr' := [(1, _), (4, _), (5, _), (11, _), (12, _), (13, _)]) ?_ ⟨rfl, rfl, rfl, rfl, rfl, rfl, trivial⟩))
   refine WC.seq (WC.seq (WC.region ?_))
   refine WL.q (oq_move rfl) rfl rfl rfl ?_
   refine WL.q (oq_ineq Tryz.underlying49 rfl (.inl rfl)) rfl rfl rfl ?_
   refine WL.nil (WE.then_normal (WC.sub (fr' := [(1, _), (4, _), (5, _), (11, _), (12, _), (13, _), (24, _)]) ?_ ⟨rfl, rfl, rfl, rfl, rfl, rfl, rfl, trivial⟩))
   refine WC.cond rfl (fun q5 => ?_) (fun q5 => ?_)
   ·
    try simp only [Z1, Z2, Z3, Z4, Z5, Z6, Z7, Z8, Z9, Z0] at q5
    first | contradiction | (exfalso; omega) | (exfalso; simp_all; done)
   ·
    try simp only [Z1, Z2, Z3, Z4, Z5, Z6, Z7, Z8, Z9, Z0] at q5
    refine WC.skip (WE.then_normal (WC.sub (fr' := [(1, _), (4, _), (11, _), (12, _), (13, _)]) ?_ ⟨rfl, rfl, rfl, rfl, rfl, trivial⟩))
    refine WC.seq (WC.region ?_)
    refine WL.q (oq_move rfl) rfl rfl rfl ?_
    refine WL.q (oq_move rfl) rfl rfl rfl ?_
    refine WL.q (oq_len_rd hr Tryz.underlying31 rfl) rfl rfl rfl ?_
    refine WL.q (oq_neq rfl rfl) rfl rfl rfl ?_
    refine WL.nil (WE.then_normal (WC.sub (fr' := [(1, _), (4, _), (11, _), (12, _), (13, _), (28, _)]) ?_ ⟨rfl, rfl, rfl, rfl, rfl, rfl, trivial⟩))
    refine WC.cond rfl (fun q6 => ?_) (fun q6 => ?_)
    ·
     try simp only [Z1, Z2, Z3, Z4, Z5, Z6, Z7, Z8, Z9, Z0] at q6
     first | contradiction | (exfalso; omega) | (exfalso; simp_all; done)
    ·
     try simp only [Z1, Z2, Z3, Z4, Z5, Z6, Z7, Z8, Z9, Z0] at q6
     refine WC.skip (WE.block_normal (WE.then_normal (WC.sub (fr' := [(1, _), (11, _), (12, _), (13, _)]) ?_ ⟨rfl, rfl, rfl, rfl, trivial⟩)))
     refine WC.region ?_
     refine WL.q (oq_add rfl rfl (by rw [i64_lo, i64_hi]; (first | omega | (simp only [List.length_cons, List.length_nil, List.length_append, List.length_drop, List.length_take]; omega)))) rfl rfl rfl ?_
     refine WL.q (oq_move rfl) rfl rfl rfl ?_
     refine WL.nil ?_
     refine WE.f4 ?_
     refine WE.f2 ?_
     refine WE.f2 ?_
     refine WE.f4 ?_
     refine WE.f4 ?_
     refine WE.again (i + 1, X2) ?_ ?_ ⟨rfl, rfl, rfl, rfl, trivial⟩ (List.Perm.refl _)
     ·try dsimp only
      exact ⟨by omega, hX2⟩
     ·(try dsimp only); omega
  ·
   try simp only [Z1, Z2, Z3, Z4, Z5, Z6, Z7, Z8, Z9, Z0] at q2
   refine WC.exit (WE.then_exit (WE.then_exit (WE.block_same (WE.then_normal (WC.sub (fr' := [(1, _)]) ?_ ⟨rfl, trivial⟩)))))
   refine WC.seq ?_
   obtain rfl : i = ws.length := by omega
   refine WC.region ?_
   refine WL.q (oq_move rfl) rfl rfl rfl ?_
   refine WL.q (oq_len_rd hr Tryz.underlying31 rfl) rfl rfl rfl ?_
   refine WL.q (oq_assign rfl) rfl rfl rfl ?_
   refine WL.q (oq_assign rfl) rfl rfl rfl ?_
   refine WL.nil (WE.then_normal (WC.sub (fr' := [(4, _), (5, _)]) ?_ ⟨rfl, rfl, trivial⟩))
   refine WC.ret ?_
   refine WE.endW4 (.inl rfl) (res2 Tryz.results126 rfl rfl) ?_
   exact ⟨_, rfl, rfl, hX⟩
theorem writeTo (base : Nat) (k : TypeId) (r : Value) (f : FuncId) (Wt : List UInt8 → Hp → Prop) (hW : Wr base k r f Wt) (acc0 : List UInt8) (G : Hp) (hG : Wt acc0 G) (bb B cap : Nat) (lr : Int) (L acc : List UInt8) (hB : base ≤ B) (hLc : L.length = cap) (hac : acc.length ≤ cap) (hc0 : 0 < cap) (hmx : cap ≤ maxLen) (hLt : L.take acc.length = acc) (ha0 : 0 < acc.length) (hal : acc0.length + acc.length ≤ 400000) : FnW Tryz.prog 65 [Pt bb 0, .iface k r] base [[(bb, .cells #[Sl B 0 acc.length cap, I 0, .int .i8 lr] 47 (0, 0))], Bf B 5 L, G] (fun w Hs => ∃ G2, w = .tuple #[I (acc.length : Int), .nilIface] ∧ Hs = [[(bb, .cells #[Sl B 0 0 cap, I 0, .int .i8 0] 47 (0, 0))], Bf B 5 L, G2] ∧ Wt (acc0 ++ acc) G2) := by
 have hmz : maxLen ≤ 9223372036854775807 := by unfold maxLen; omega
 have hrd : RdS 1 (Sl B 0 acc.length cap) (Bf B 5 L) acc.length (bytesV acc) := by have := Sl.rd (b := B) (off := 0) (n := acc.length) (c := cap) (e := 5) (l := L) (by omega) hac; rw [List.drop_zero, hLt] at this; exact this
 refine FnW.enter (n := 58) Tryz.func65 rfl rfl fun w0 R0 hbase => ?_
 subst hbase
 show WC _ _ _ _ _ _ _ ([[(bb, .cells #[Sl B 0 acc.length cap, I 0, .int .i8 lr] 47 (0, 0))], Bf B 5 L, G, R0])
 refine WC.sub (fr' := [(0, _), (1, _)]) ?_ ⟨rfl, rfl, trivial⟩
 refine WC.seq (WC.region ?_)
 refine WL.q (oq_assign rfl) rfl rfl rfl ?_
 refine WL.q (oq_assign rfl) rfl rfl rfl ?_
 refine WL.nil (WE.then_normal (WC.sub (fr' := [(0, _), (1, _), (4, _)]) ?_ ⟨rfl, rfl, rfl, trivial⟩))
 refine WC.seq (WC.region ?_)
 refine WL.q (oq_move rfl) rfl rfl rfl ?_
 refine WL.q (oq_nilCheck rfl) rfl rfl rfl ?_
 refine WL.q (oq_fieldAddr fld47_2 rfl) rfl rfl rfl ?_
 refine WL.store1 #[_, _, _] ty45 rfl rfl (by first | rfl | exact OwS.one one_) (Nat.lt_of_lt_of_le (Nat.lt_succ_self _) (Nat.le_of_ble_eq_true rfl)) rfl rfl ?_
 refine WL.nil (WE.then_normal (WC.sub (fr' := [(0, _), (1, _), (4, _)]) ?_ ⟨rfl, rfl, rfl, trivial⟩))
 refine WC.seq (WC.seq (WC.region ?_))
 refine WL.q (oq_move rfl) rfl rfl rfl ?_
 refine WL.qc (oq_callRm (bufLen bb acc.length cap (some ⟨B, 0, none⟩) 0 (by omega)) (.head _) call26 rfl) rfl rfl rfl ?_
 refine WL.q (oq_assign rfl) rfl rfl rfl ?_
 refine WL.nil (WE.then_normal (WC.sub (fr' := [(0, _), (1, _), (4, _), (6, _)]) ?_ ⟨rfl, rfl, rfl, rfl, trivial⟩))
 refine WC.seq (WC.region ?_)
 refine WL.q (oq_move rfl) rfl rfl rfl ?_
 refine WL.q (oq_gtr rfl rfl) rfl rfl rfl ?_
 refine WL.nil (WE.then_normal (WC.sub (fr' := [(0, _), (1, _), (4, _), (6, _), (15, _)]) ?_ ⟨rfl, rfl, rfl, rfl, rfl, trivial⟩))
 refine WC.cond rfl (fun q3 => ?_) (fun q3 => ?_)
 ·
  try simp only [Z1, Z2, Z3, Z4, Z5, Z6, Z7, Z8, Z9, Z0] at q3
  refine WC.seq ?_
  refine WC.tailM (pl := []) (ql := [_, _, _, _, _, _, _, _, _, _, _, _, _]) (tl := [_, _, _, _, _, _]) [] [0, 1, 2, 3, 4, 5, 6, 7, 8, 9, 10, 11, 12] 13 [14, 15, 16, 17, 18] (by kernel_rfl) (by kernel_rfl) (by kernel_rfl) (by kernel_rfl) (by kernel_rfl) (by kernel_rfl) (by decide) rfl rfl rfl (by decide) (by repeat (first | with_reducible exact QOk.body | with_reducible apply QOk.then | with_reducible apply QOk.block | exact QOk.body | apply QOk.then | apply QOk.block)) ?_
  refine WM.nil ?_
  refine WY.q (oq_move rfl) rfl rfl rfl ?_
  refine WY.q (oq_move rfl) rfl rfl rfl ?_
  refine WY.q (oq_nilCheck rfl) rfl rfl rfl ?_
  refine WY.q (oq_fieldAddr fld47_0 rfl) rfl rfl rfl ?_
  refine WY.q (oq_load flat31 rfl (.head _) (List.mem_singleton.2 rfl) rfl) rfl rfl rfl ?_
  refine WY.q (oq_move rfl) rfl rfl rfl ?_
  refine WY.q (oq_nilCheck rfl) rfl rfl rfl ?_
  refine WY.q (oq_fieldAddr fld47_1 rfl) rfl rfl rfl ?_
  refine WY.q (oq_load flat3 rfl (.head _) (List.mem_singleton.2 rfl) rfl) rfl rfl rfl ?_
  refine WY.q (oq_sliceSl (i := 0) Tryz.underlying31 ty5 rfl (by omega) ⟨_, rfl⟩ rfl (by omega) (by omega)) rfl rfl rfl ?_
  refine WY.q (oq_makeMeth rfl) rfl rfl rfl ?_
  refine WY.q (oq_nilMeth rfl (hW.nok)) rfl rfl rfl ?_
  refine WY.q (oq_move rfl) rfl rfl rfl ?_
  refine WY.nil ?_
  refine WL.f1 ?_
  refine WL.f2 ?_
  refine WL.callWE (fun a w hf => ent_inv1 hW.inv rfl rfl hf w) (hW.run acc0 G _ (Bf B 5 L) acc hG hrd hal (by omega)) rfl rfl rfl rfl fun v4_13 Hs4_13 hR4_13 => ?_
  obtain ⟨G2, rfl, rfl, hG2⟩ := hR4_13
  refine WL.app2 ?_
  refine WL.q (oq_move rfl) rfl rfl rfl ?_
  refine WL.q (oq_extract rfl rfl) rfl rfl rfl ?_
  refine WL.q (oq_extract rfl rfl) rfl rfl rfl ?_
  refine WL.q (oq_assign rfl) rfl rfl rfl ?_
  refine WL.q (oq_assign rfl) rfl rfl rfl ?_
  refine WL.nil (WE.then_normal (WC.sub (fr' := [(0, _), (6, _), (7, _), (8, _)]) ?_ ⟨rfl, rfl, rfl, rfl, trivial⟩))
  refine WC.seq (WC.seq (WC.region ?_))
  refine WL.q (oq_move rfl) rfl rfl rfl ?_
  refine WL.q (oq_move rfl) rfl rfl rfl ?_
  refine WL.q (oq_gtr rfl rfl) rfl rfl rfl ?_
  refine WL.nil (WE.then_normal (WC.sub (fr' := [(0, _), (6, _), (7, _), (8, _), (35, _)]) ?_ ⟨rfl, rfl, rfl, rfl, rfl, trivial⟩))
  refine WC.cond rfl (fun q5 => ?_) (fun q5 => ?_)
  ·
   try simp only [Z1, Z2, Z3, Z4, Z5, Z6, Z7, Z8, Z9, Z0] at q5
   first | contradiction | (exfalso; omega) | (exfalso; simp_all; done)
  ·
   try simp only [Z1, Z2, Z3, Z4, Z5, Z6, Z7, Z8, Z9, Z0] at q5
   refine WC.skip (WE.then_normal (WC.sub (fr' := [(0, _), (6, _), (7, _), (8, _)]) ?_ ⟨rfl, rfl, rfl, rfl, trivial⟩))
   refine WC.seq (WC.region ?_)
   refine WL.q (oq_move rfl) rfl rfl rfl ?_
   refine WL.q (oq_nilCheck rfl) rfl rfl rfl ?_
   refine WL.q (oq_fieldAddr fld47_1 rfl) rfl rfl rfl ?_
   refine WL.q (oq_load flat3 rfl (.tail _ (.tail _ (.head _))) (List.mem_singleton.2 rfl) rfl) rfl rfl rfl ?_
   refine WL.q (oq_move rfl) rfl rfl rfl ?_
   refine WL.q (oq_add rfl rfl (by rw [i64_lo, i64_hi]; (first | omega | (simp only [List.length_cons, List.length_nil, List.length_append, List.length_drop, List.length_take]; omega)))) rfl rfl rfl ?_
   refine WL.q (oq_nilCheck rfl) rfl rfl rfl ?_
   refine WL.q (oq_fieldAddr fld47_1 rfl) rfl rfl rfl ?_
   refine WL.f2 ?_
   refine WL.store1 #[_, _, _] ty3 rfl rfl (by first | rfl | exact OwS.one one_) (Nat.lt_of_lt_of_le (Nat.lt_succ_self _) (Nat.le_of_ble_eq_true rfl)) rfl rfl ?_
   refine WL.nil (WE.then_normal (WC.sub (fr' := [(0, _), (6, _), (7, _), (8, _)]) ?_ ⟨rfl, rfl, rfl, rfl, trivial⟩))
   refine WC.seq (WC.region ?_)
   refine WL.q (oq_move rfl) rfl rfl rfl ?_
   refine WL.q (oq_assign rfl) rfl rfl rfl ?_
   refine WL.nil (WE.then_normal (WC.sub (fr' := [(0, _), (4, _), (6, _), (7, _), (8, _)]) ?_ ⟨rfl, rfl, rfl, rfl, rfl, trivial⟩))
   refine WC.seq (WC.seq (WC.region ?_))
   refine WL.q (oq_move rfl) rfl rfl rfl ?_
   refine WL.q (oq_ineq Tryz.underlying49 rfl (.inl rfl)) rfl rfl rfl ?_
   refine WL.nil (WE.then_normal (WC.sub (fr' := [(0, _), (4, _), (6, _), (7, _), (8, _), (47, _)]) ?_ ⟨rfl, rfl, rfl, rfl, rfl, rfl, trivial⟩))
   refine WC.cond rfl (fun q9 => ?_) (fun q9 => ?_)
   ·
    try simp only [Z1, Z2, Z3, Z4, Z5, Z6, Z7, Z8, Z9, Z0] at q9
    first | contradiction | (exfalso; omega) | (exfalso; simp_all; done)
   ·
    try simp only [Z1, Z2, Z3, Z4, Z5, Z6, Z7, Z8, Z9, Z0] at q9
    refine WC.skip (WE.then_normal (WC.sub (fr' := [(0, _), (4, _), (6, _), (7, _)]) ?_ ⟨rfl, rfl, rfl, rfl, trivial⟩))
    refine WC.seq (WC.region ?_)
    refine WL.q (oq_move rfl) rfl rfl rfl ?_
    refine WL.q (oq_move rfl) rfl rfl rfl ?_
    refine WL.q (oq_neq rfl rfl) rfl rfl rfl ?_
    refine WL.nil (WE.then_normal (WC.sub (fr' := [(0, _), (4, _), (52, _)]) ?_ ⟨rfl, rfl, rfl, trivial⟩))
    refine WC.cond rfl (fun q11 => ?_) (fun q11 => ?_)
    ·
     try simp only [Z1, Z2, Z3, Z4, Z5, Z6, Z7, Z8, Z9, Z0] at q11
     first | contradiction | (exfalso; omega) | (exfalso; simp_all; done)
    ·
     try simp only [Z1, Z2, Z3, Z4, Z5, Z6, Z7, Z8, Z9, Z0] at q11
     refine WC.skip (WE.then_normal (WC.sub (fr' := [(0, _), (4, _)]) ?_ ⟨rfl, rfl, trivial⟩))
     refine WC.seq (WC.region ?_)
     refine WL.q (oq_move rfl) rfl rfl rfl ?_
     refine WL.callW1 (reset1 _ bb 0 _ B acc.length cap hac hc0) call23 rfl rfl rfl fun v13_1 Hs13_1 hR13_1 => ?_
     obtain ⟨rfl, rfl⟩ := hR13_1
     refine WL.to1 ?_
     refine WL.nil (WE.then_normal (WC.sub (fr' := [(4, _)]) ?_ ⟨rfl, trivial⟩))
     refine WC.seq (WC.region ?_)
     refine WL.q (oq_move rfl) rfl rfl rfl ?_
     refine WL.q (oq_assign rfl) rfl rfl rfl ?_
     refine WL.q (oq_assign rfl) rfl rfl rfl ?_
     refine WL.nil (WE.then_normal (WC.sub (fr' := [(4, _), (5, _)]) ?_ ⟨rfl, rfl, trivial⟩))
     refine WC.ret ?_
     refine WE.f3 ?_
     refine WE.f2 ?_
     refine WE.f3 ?_
     refine WE.f3 ?_
     refine WE.endW3 (.inl rfl) (res2 Tryz.results65 rfl rfl) ?_
     exact ⟨_, rfl, rfl, hG2⟩
 ·
  try simp only [Z1, Z2, Z3, Z4, Z5, Z6, Z7, Z8, Z9, Z0] at q3
  first | contradiction | (exfalso; omega) | (exfalso; simp_all; done)
theorem copyBuf (base : Nat) (k : TypeId) (r : Value) (f : FuncId) (Wt : List UInt8 → Hp → Prop) (hW : Wr base k r f Wt) (acc0 : List UInt8) (G : Hp) (hG : Wt acc0 G) (bb B cap : Nat) (lr : Int) (L acc : List UInt8) (hB : base ≤ B) (hLc : L.length = cap) (hac : acc.length ≤ cap) (hc0 : 0 < cap) (hmx : cap ≤ maxLen) (hLt : L.take acc.length = acc) (ha0 : 0 < acc.length) (hal : acc0.length + acc.length ≤ 400000) : FnW Tryz.prog 38 [.iface k r, .iface 53 (Pt bb 0), .slice none 0 0] base [[(bb, .cells #[Sl B 0 acc.length cap, I 0, .int .i8 lr] 47 (0, 0))], Bf B 5 L, G] (fun w Hs => ∃ G2, w = .tuple #[I (acc.length : Int), .nilIface] ∧ Hs = [[(bb, .cells #[Sl B 0 0 cap, I 0, .int .i8 0] 47 (0, 0))], Bf B 5 L, G2] ∧ Wt (acc0 ++ acc) G2) := by
 refine FnW.enter (n := 115) Tryz.func38 rfl rfl fun w0 R0 hbase => ?_
 subst hbase
 show WC _ _ _ _ _ _ _ ([[(bb, .cells #[Sl B 0 acc.length cap, I 0, .int .i8 lr] 47 (0, 0))], Bf B 5 L, G, R0])
 refine WC.sub (fr' := [(0, _), (1, _), (2, _)]) ?_ ⟨rfl, rfl, rfl, trivial⟩
 refine WC.seq (WC.region ?_)
 refine WL.q (oq_assign rfl) rfl rfl rfl ?_
 refine WL.q (oq_assign rfl) rfl rfl rfl ?_
 refine WL.nil (WE.then_normal (WC.sub (fr' := [(0, _), (1, _), (2, _), (6, _), (7, _)]) ?_ ⟨rfl, rfl, rfl, rfl, rfl, trivial⟩))
 refine WC.seq (WC.seq (WC.region ?_))
 refine WL.q (oq_move rfl) rfl rfl rfl ?_
 refine WL.q (oq_askYes askBT rfl) rfl rfl rfl ?_
 refine WL.q (oq_move rfl) rfl rfl rfl ?_
 refine WL.q (oq_extract rfl rfl) rfl rfl rfl ?_
 refine WL.q (oq_extract rfl rfl) rfl rfl rfl ?_
 refine WL.q (oq_assign rfl) rfl rfl rfl ?_
 refine WL.q (oq_assign rfl) rfl rfl rfl ?_
 refine WL.nil (WE.then_normal (WC.sub (fr' := [(0, _), (1, _), (2, _), (6, _), (7, _), (8, _), (9, _)]) ?_ ⟨rfl, rfl, rfl, rfl, rfl, rfl, rfl, trivial⟩))
 refine WC.seq (WC.region ?_)
 refine WL.q (oq_move rfl) rfl rfl rfl ?_
 refine WL.nil (WE.then_normal (WC.sub (fr' := [(0, _), (1, _), (2, _), (6, _), (7, _), (8, _), (24, _)]) ?_ ⟨rfl, rfl, rfl, rfl, rfl, rfl, rfl, trivial⟩))
 refine WC.cond rfl (fun q2 => ?_) (fun q2 => ?_)
 ·
  try simp only [Z1, Z2, Z3, Z4, Z5, Z6, Z7, Z8, Z9, Z0] at q2
  refine WC.seq (WC.region ?_)
  refine WL.q (oq_move rfl) rfl rfl rfl ?_
  refine WL.q (oq_move rfl) rfl rfl rfl ?_
  refine WL.f2 ?_
  refine WL.f2 ?_
  refine WL.f2 ?_
  refine WL.callWE (fun a w hf => ent_inv1 invBT rfl rfl hf w) (writeTo _ k r f Wt hW acc0 G hG bb B cap lr L acc hB hLc hac hc0 hmx hLt ha0 hal) rfl rfl rfl rfl fun v3_2 Hs3_2 hR3_2 => ?_
  obtain ⟨G2, rfl, rfl, hG2⟩ := hR3_2
  refine WL.app3 ?_
  refine WL.q (oq_extract rfl rfl) rfl rfl rfl ?_
  refine WL.q (oq_extract rfl rfl) rfl rfl rfl ?_
  refine WL.q (oq_assign rfl) rfl rfl rfl ?_
  refine WL.q (oq_assign rfl) rfl rfl rfl ?_
  refine WL.nil (WE.then_normal (WC.sub (fr' := [(6, _), (7, _)]) ?_ ⟨rfl, rfl, trivial⟩))
  refine WC.ret (WE.then_ret ?_)
  refine WE.endW3 (.inl rfl) (res2 Tryz.results38 rfl rfl) ?_
  exact ⟨_, rfl, rfl, hG2⟩
 ·
  try simp only [Z1, Z2, Z3, Z4, Z5, Z6, Z7, Z8, Z9, Z0] at q2
  first | contradiction | (exfalso; omega) | (exfalso; simp_all; done)
theorem copy_ (base : Nat) (k : TypeId) (r : Value) (f : FuncId) (Wt : List UInt8 → Hp → Prop) (hW : Wr base k r f Wt) (acc0 : List UInt8) (G : Hp) (hG : Wt acc0 G) (bb B cap : Nat) (lr : Int) (L acc : List UInt8) (hB : base ≤ B) (hLc : L.length = cap) (hac : acc.length ≤ cap) (hc0 : 0 < cap) (hmx : cap ≤ maxLen) (hLt : L.take acc.length = acc) (ha0 : 0 < acc.length) (hal : acc0.length + acc.length ≤ 400000) : FnW Tryz.prog 28 [.iface k r, .iface 53 (Pt bb 0)] base [[(bb, .cells #[Sl B 0 acc.length cap, I 0, .int .i8 lr] 47 (0, 0))], Bf B 5 L, G] (fun w Hs => ∃ G2, w = .tuple #[I (acc.length : Int), .nilIface] ∧ Hs = [[(bb, .cells #[Sl B 0 0 cap, I 0, .int .i8 0] 47 (0, 0))], Bf B 5 L, G2] ∧ Wt (acc0 ++ acc) G2) := by
 refine FnW.enter (n := 11) Tryz.func28 rfl rfl fun w0 R0 hbase => ?_
 subst hbase
 show WC _ _ _ _ _ _ _ ([[(bb, .cells #[Sl B 0 acc.length cap, I 0, .int .i8 lr] 47 (0, 0))], Bf B 5 L, G, R0])
 refine WC.sub (fr' := [(0, _), (1, _)]) ?_ ⟨rfl, rfl, trivial⟩
 refine WC.seq (WC.region ?_)
 refine WL.q (oq_assign rfl) rfl rfl rfl ?_
 refine WL.q (oq_assign rfl) rfl rfl rfl ?_
 refine WL.nil (WE.then_normal (WC.sub (fr' := [(0, _), (1, _)]) ?_ ⟨rfl, rfl, trivial⟩))
 refine WC.seq (WC.region ?_)
 refine WL.q (oq_move rfl) rfl rfl rfl ?_
 refine WL.q (oq_move rfl) rfl rfl rfl ?_
 refine WL.f2 ?_
 refine WL.f2 ?_
 refine WL.f2 ?_
 refine WL.callW3 (copyBuf _ k r f Wt hW acc0 G hG bb B cap lr L acc hB hLc hac hc0 hmx hLt ha0 hal) call38 rfl rfl rfl fun v1_2 Hs1_2 hR1_2 => ?_
 obtain ⟨G2, rfl, rfl, hG2⟩ := hR1_2
 refine WL.to3 ?_
 refine WL.q (oq_extract rfl rfl) rfl rfl rfl ?_
 refine WL.q (oq_extract rfl rfl) rfl rfl rfl ?_
 refine WL.q (oq_assign rfl) rfl rfl rfl ?_
 refine WL.q (oq_assign rfl) rfl rfl rfl ?_
 refine WL.nil (WE.then_normal (WC.sub (fr' := [(4, _), (5, _)]) ?_ ⟨rfl, rfl, trivial⟩))
 refine WC.ret ?_
 refine WE.endW3 (.inl rfl) (res2 Tryz.results28 rfl rfl) ?_
 exact ⟨_, rfl, rfl, hG2⟩
theorem bufBytes (bb B len cap : Nat) (lr : Int) (hlc : len ≤ cap) (hc0 : 0 < cap) : FnR Tryz.prog 18 [Pt bb 0] [(bb, .cells #[Sl B 0 len cap, I 0, .int .i8 lr] 47 (0, 0))] (Sl B 0 len cap) := by
 refine FnR.enter (n := 12) Tryz.func18 rfl rfl fun w0 => ?_
 refine WC.sub (fr' := [(0, _)]) ?_ ⟨rfl, trivial⟩
 refine WC.seq (WC.region ?_)
 refine WL.q (oq_assign rfl) rfl rfl rfl ?_
 refine WL.nil (WE.then_normal (WC.sub (fr' := [(0, _)]) ?_ ⟨rfl, trivial⟩))
 refine WC.seq (WC.quiet (by kernel_rfl) (by kernel_rfl) ?_)
 refine WQ.q (oq_move rfl) rfl rfl rfl ?_
 refine WQ.q (oq_nilCheck rfl) rfl rfl rfl ?_
 refine WQ.q (oq_fieldAddr fld47_0 rfl) rfl rfl rfl ?_
 refine WQ.q (oq_load flat31 rfl (.head _) (List.mem_singleton.2 rfl) rfl) rfl rfl rfl ?_
 refine WQ.q (oq_move rfl) rfl rfl rfl ?_
 refine WQ.q (oq_nilCheck rfl) rfl rfl rfl ?_
 refine WQ.q (oq_fieldAddr fld47_1 rfl) rfl rfl rfl ?_
 refine WQ.q (oq_load flat3 rfl (.head _) (List.mem_singleton.2 rfl) rfl) rfl rfl rfl ?_
 refine WQ.q (oq_sliceSl (i := 0) Tryz.underlying31 ty5 rfl (by omega) ⟨_, rfl⟩ rfl (by omega) (by omega)) rfl rfl rfl ?_
 refine WQ.q (oq_assign rfl) rfl rfl rfl ?_
 refine WQ.nil (WE.then_normal (WC.sub (fr' := [(2, _)]) ?_ ⟨rfl, trivial⟩))
 refine WC.ret ?_
 refine WE.endR (.inl rfl) (res1 Tryz.results18 rfl) ?_
 rfl
theorem bufBytes0 (bb : Nat) (lr : Int) : FnR Tryz.prog 18 [Pt bb 0] [(bb, .cells #[.slice none 0 0, I 0, .int .i8 lr] 47 (0, 0))] (.slice none 0 0) := by
 refine FnR.enter (n := 12) Tryz.func18 rfl rfl fun w0 => ?_
 refine WC.sub (fr' := [(0, _)]) ?_ ⟨rfl, trivial⟩
 refine WC.seq (WC.region ?_)
 refine WL.q (oq_assign rfl) rfl rfl rfl ?_
 refine WL.nil (WE.then_normal (WC.sub (fr' := [(0, _)]) ?_ ⟨rfl, trivial⟩))
 refine WC.seq (WC.quiet (by kernel_rfl) (by kernel_rfl) ?_)
 refine WQ.q (oq_move rfl) rfl rfl rfl ?_
 refine WQ.q (oq_nilCheck rfl) rfl rfl rfl ?_
 refine WQ.q (oq_fieldAddr fld47_0 rfl) rfl rfl rfl ?_
 refine WQ.q (oq_load flat31 rfl (.head _) (List.mem_singleton.2 rfl) rfl) rfl rfl rfl ?_
 refine WQ.q (oq_move rfl) rfl rfl rfl ?_
 refine WQ.q (oq_nilCheck rfl) rfl rfl rfl ?_
 refine WQ.q (oq_fieldAddr fld47_1 rfl) rfl rfl rfl ?_
 refine WQ.q (oq_load flat3 rfl (.head _) (List.mem_singleton.2 rfl) rfl) rfl rfl rfl ?_
 refine WQ.q (oq_sliceNil Tryz.underlying31 ty5 rfl rfl) rfl rfl rfl ?_
 refine WQ.q (oq_assign rfl) rfl rfl rfl ?_
 refine WQ.nil (WE.then_normal (WC.sub (fr' := [(2, _)]) ?_ ⟨rfl, trivial⟩))
 refine WC.ret ?_
 refine WE.endR (.inl rfl) (res1 Tryz.results18 rfl) ?_
 rfl
theorem newBuf  : FnA Tryz.prog 22 [.slice none 0 0] [] (fun w N => ∃ bb, w = Pt bb 0 ∧ N = BB bb (.slice none 0 0) 0) := by
 refine FnA.enter0 (n := 6) Tryz.func22 rfl rfl fun w0 => ?_
 refine WC.sub (fr' := [(0, _)]) ?_ ⟨rfl, trivial⟩
 refine WC.seq (WC.region ?_)
 refine WL.q (oq_assign rfl) rfl rfl rfl ?_
 refine WL.nil (WE.then_normal (WC.sub (fr' := [(0, _)]) ?_ ⟨rfl, trivial⟩))
 refine WC.seq (WC.region ?_)
 refine WL.q (oq_move rfl) rfl rfl rfl ?_
 refine WL.q (oq_build #[_, _, _] str47 ty47 rfl rfl) rfl rfl rfl ?_
 refine WL.box rfl rfl rfl fun b1_2 hb1_2 => ?_
 refine WL.q (oq_assign rfl) rfl rfl rfl ?_
 refine WL.nil (WE.then_normal (WC.sub (fr' := [(2, _)]) ?_ ⟨rfl, trivial⟩))
 refine WC.ret ?_
 refine WE.endA0 (.inl rfl) (res1 Tryz.results22 rfl) ?_ (fresh1 hb1_2)
 exact ⟨_, rfl, rfl⟩
end ED
end Go.Proofs.YtinkaobaboffcaaGreatDoor
/- Numbers as bytes. -/
namespace Go.Proofs.YtinkaobaboffcaaGreatDoor
open Go Go.RowKit V EA EB EC ED
set_option linter.unusedSimpArgs false
set_option linter.unusedVariables false
set_option maxRecDepth 10000
namespace EE
theorem flat20 : Flat Tryz.prog 20 := ⟨_, Tryz.underlying20, by simp⟩
theorem ty2 : Ty Tryz.prog 2 (.int .i64 0) 1 8 := ty_of (by kernel_rfl)
theorem ty5 : Ty Tryz.prog 5 (.int .u8 0) 1 1 := ty_of (by kernel_rfl)
theorem ty20 : Ty Tryz.prog 20 .nilIface 1 16 := ty_of (by kernel_rfl)
theorem ty60 : Ty Tryz.prog 60 (.int .i8 0) 1 1 := ty_of (by kernel_rfl)
theorem ty62 : Ty Tryz.prog 62 (.int .i16 0) 1 2 := ty_of (by kernel_rfl)
theorem ty63 : Ty Tryz.prog 63 (.int .i32 0) 1 4 := ty_of (by kernel_rfl)
theorem ty64 : Ty Tryz.prog 64 (.int .i64 0) 1 8 := ty_of (by kernel_rfl)
theorem ty82 : Ty Tryz.prog 82 (.int .u32 0) 1 4 := ty_of (by kernel_rfl)
theorem ty121 : Ty Tryz.prog 121 (.int .u8 0) 1 1 := ty_of (by kernel_rfl)
theorem ty122 : Ty Tryz.prog 122 (.int .u16 0) 1 2 := ty_of (by kernel_rfl)
theorem conc2 : Conc Tryz.prog 2 := ⟨_, Tryz.underlying2, by simp⟩
theorem conc5 : Conc Tryz.prog 5 := ⟨_, Tryz.underlying5, by simp⟩
theorem conc60 : Conc Tryz.prog 60 := ⟨_, Tryz.underlying60, by simp⟩
theorem conc62 : Conc Tryz.prog 62 := ⟨_, Tryz.underlying62, by simp⟩
theorem conc63 : Conc Tryz.prog 63 := ⟨_, Tryz.underlying63, by simp⟩
theorem conc64 : Conc Tryz.prog 64 := ⟨_, Tryz.underlying64, by simp⟩
theorem conc82 : Conc Tryz.prog 82 := ⟨_, Tryz.underlying82, by simp⟩
theorem conc121 : Conc Tryz.prog 121 := ⟨_, Tryz.underlying121, by simp⟩
theorem conc122 : Conc Tryz.prog 122 := ⟨_, Tryz.underlying122, by simp⟩
structure Num where
 k : TypeId
 ik : IntKind
 w : Nat
 x : Int
def Num.val (d : Num) : Value := .iface d.k (.int d.ik d.x)
def Num.kinds : List (TypeId × IntKind × Nat) := [(121, .u8, 1), (5, .u8, 1), (60, .i8, 1), (122, .u16, 2), (62, .i16, 2), (82, .u32, 4), (63, .i32, 4), (2, .i64, 8), (64, .i64, 8)]
def Num.ok (d : Num) : Prop := (d.k, d.ik, d.w) ∈ Num.kinds
theorem Num.ok.w8 {d : Num} (h : d.ok) : d.w ≤ 8 ∧ 1 ≤ d.w := by
 unfold Num.ok Num.kinds at h
 simp only [List.mem_cons, Prod.mk.injEq, List.not_mem_nil, or_false] at h
 omega
theorem Num.of {d : Num} {k : Nat} {ik : IntKind} {w : Nat} (h : d.ok) (hk : d.k = k) (hm : ((Num.kinds.find? (fun r => r.1 == k)).map fun r => (r.2.1, r.2.2)) = some (ik, w)) : d.ik = ik ∧ d.w = w := by
 obtain ⟨k', ik', w', x⟩ := d
 subst hk
 unfold Num.ok Num.kinds at h
 simp only [List.mem_cons, Prod.mk.injEq, List.not_mem_nil, or_false] at h
 rcases h with ⟨rfl, rfl, rfl⟩ | ⟨rfl, rfl, rfl⟩ | ⟨rfl, rfl, rfl⟩ | ⟨rfl, rfl, rfl⟩ | ⟨rfl, rfl, rfl⟩ | ⟨rfl, rfl, rfl⟩ | ⟨rfl, rfl, rfl⟩ | ⟨rfl, rfl, rfl⟩ | ⟨rfl, rfl, rfl⟩ <;> (simp [Num.kinds, List.find?] at hm; simp [hm])
def bytesN (ds : List Num) : List UInt8 := ds.flatMap fun d => be d.w d.x
theorem bytesN_snoc (ds : List Num) (i : Nat) (h : i < ds.length) : bytesN (ds.take (i + 1)) = bytesN (ds.take i) ++ be ds[i].w ds[i].x := by
 unfold bytesN; rw [List.take_add_one, List.flatMap_append, List.getElem?_eq_getElem h]; simp
theorem bytesN_len (ds : List Num) (h : ∀ d ∈ ds, d.ok) : (bytesN ds).length ≤ 8 * ds.length := by
 unfold bytesN
 induction ds with
 | nil => simp
 | cons d r ih =>
  have h1 := ih fun d hd => h d (List.mem_cons_of_mem _ hd)
  have h2 := (h d List.mem_cons_self).w8
  rw [List.flatMap_cons, List.length_append, be_len, List.length_cons]; omega
theorem be_u64 (w : Nat) (x : Int) (h : w ≤ 8) : be w (IntKind.u64.wrap x) = be w x := by
 have e : IntKind.u64.wrap x = x % 2 ^ (8 * 8) := by simp [IntKind.wrap, IntKind.signed, IntKind.bits]
 rw [e, be_mod w 8 x h]
theorem zzWrite (base : Nat) (k : TypeId) (r : Value) (f : FuncId) (Wt : List UInt8 → Hp → Prop) (hW : Wr base k r f Wt) (acc0 : List UInt8) (G : Hp) (hG : Wt acc0 G) (v : Value) (D : Hp) (ds : List Num) (hr : RdS 1 v D ds.length (ds.map Num.val)) (hds : ∀ d ∈ ds, d.ok) (hdn : ds.length ≤ 1000) (hal : acc0.length + 8 * ds.length ≤ 300000) : FnW Tryz.prog 30 [.iface k r, v] base [D, G] (fun w Hs => ∃ G2, w = .nilIface ∧ Hs = [D, G2] ∧ Wt (acc0 ++ bytesN ds) G2) := by
 refine FnW.enter (n := 98) Tryz.func30 rfl rfl fun w0 R0 hbase => ?_
 subst hbase
 show WC _ _ _ _ _ _ _ ([D, G, R0])
 refine WC.sub (fr' := [(0, _), (1, _)]) ?_ ⟨rfl, rfl, trivial⟩
 refine WC.seq (WC.region ?_)
 refine WL.q (oq_assign rfl) rfl rfl rfl ?_
 refine WL.nil (WE.then_normal (WC.sub (fr' := [(0, _), (1, _)]) ?_ ⟨rfl, rfl, trivial⟩))
 refine WC.seq (WC.seq (WC.region ?_))
 refine WL.q (oq_move rfl) rfl rfl rfl ?_
 refine WL.q (oq_len_rd hr Tryz.underlying120 rfl) rfl rfl rfl ?_
 refine WL.q (oq_move rfl) rfl rfl rfl ?_
 refine WL.nil (WE.then_normal (WC.sub (fr' := [(0, _), (22, _), (23, _), (24, _)]) ?_ ⟨rfl, rfl, rfl, rfl, trivial⟩))
 refine WC.block ?_
 refine WC.loop (ι := Nat × Hp) (fun i_ => (fun (i : Nat) (X : Hp) => [(0, .iface k r), (22, v), (23, I (ds.length : Int)), (24, I (i : Int))]) i_.1 i_.2) (fun i_ => (fun (i : Nat) (X : Hp) => [D, X, R0]) i_.1 i_.2) (fun i_ => (fun (i : Nat) (X : Hp) => i ≤ ds.length ∧ Wt (acc0 ++ bytesN (ds.take i)) X) i_.1 i_.2) (fun i_ => (fun (i : Nat) (X : Hp) => ds.length - i) i_.1 i_.2) ((0, G)) ?_ ⟨rfl, rfl, rfl, rfl, trivial⟩ (List.Perm.refl _) ?_
 ·try dsimp only
  exact ⟨by omega, by simpa [bytesN] using hG⟩
 ·rintro ⟨i, X⟩ hp
  try dsimp only at hp
  obtain ⟨hi, hX⟩ := hp
  show WC _ _ _ _ _ _ ([(0, .iface k r), (22, v), (23, I (ds.length : Int)), (24, I (i : Int))]) ([D, X, R0])
  refine WC.seq (WC.region ?_)
  refine WL.q (oq_lss rfl rfl) rfl rfl rfl ?_
  refine WL.nil (WE.then_normal (WC.sub (fr' := [(0, _), (22, _), (23, _), (24, _), (25, _)]) ?_ ⟨rfl, rfl, rfl, rfl, rfl, trivial⟩))
  refine WC.seq ?_
  refine WC.cond rfl (fun q2 => ?_) (fun q2 => ?_)
  ·
   try simp only [Z1, Z2, Z3, Z4, Z5, Z6, Z7, Z8, Z9, Z0] at q2
   refine WC.skip (WE.then_normal (WC.sub (fr' := [(0, _), (22, _), (23, _), (24, _)]) ?_ ⟨rfl, rfl, rfl, rfl, trivial⟩))
   refine WC.seq (WC.block (WC.seq ?_))
   have hlt : i < ds.length := by omega
   have hok := hds ds[i] (List.getElem_mem hlt)
   obtain ⟨hw8, hw1⟩ := hok.w8
   refine WC.region ?_
   refine WL.q (oq_ixaddr hr Tryz.underlying120 ty20 rfl rfl (by (first | omega | (simp only [List.length_cons, List.length_nil, List.length_append, List.length_drop, List.length_take]; omega)))) rfl rfl rfl ?_
   refine WL.q (oq_load_el hr (by repeat (first | exact .head _ | apply List.Mem.tail)) flat20 rfl (by omega) (u := ds[i].val) (by rw [Int.toNat_natCast, List.getElem?_map, List.getElem?_eq_getElem hlt]; rfl)) rfl rfl rfl ?_
   refine WL.q (oq_assign rfl) rfl rfl rfl ?_
   refine WL.nil (WE.then_normal (WC.sub (fr' := [(0, _), (6, _), (22, _), (23, _), (24, _)]) ?_ ⟨rfl, rfl, rfl, rfl, rfl, trivial⟩))
   refine WC.seq (WC.region ?_)
   refine WL.q (oq_assign rfl) rfl rfl rfl ?_
   refine WL.nil (WE.then_normal (WC.sub (fr' := [(0, _), (6, _), (7, _), (22, _), (23, _), (24, _)]) ?_ ⟨rfl, rfl, rfl, rfl, rfl, rfl, trivial⟩))
   refine WC.seq (WC.region ?_)
   refine WL.q (oq_assign rfl) rfl rfl rfl ?_
   refine WL.nil (WE.then_normal (WC.sub (fr' := [(0, _), (6, _), (7, _), (8, _), (22, _), (23, _), (24, _)]) ?_ ⟨rfl, rfl, rfl, rfl, rfl, rfl, rfl, trivial⟩))
   refine WC.cut (ι := Unit) (fun _ => [(0, .iface k r), (7, .int .u64 (IntKind.u64.wrap ds[i].x)), (8, I (ds[i].w : Int)), (22, v), (23, I (ds.length : Int)), (24, I (i : Int))]) (fun _ => [D, X, R0]) (fun _ => True) ?_ ?_
   ·
    refine WC.seq (WC.region ?_)
    refine WL.q (oq_move rfl) rfl rfl rfl ?_
    refine WL.nil (WE.then_normal (WC.sub (fr' := [(0, _), (7, _), (8, _), (22, _), (23, _), (24, _), (28, _)]) ?_ ⟨rfl, rfl, rfl, rfl, rfl, rfl, rfl, trivial⟩))
    refine WC.block (WC.seq (WC.region ?_))
    refine WL.q (oq_askG conc121 ty121 rfl) rfl rfl rfl ?_
    refine WL.q (oq_extract rfl rfl) rfl rfl rfl ?_
    refine WL.q (oq_extract rfl rfl) rfl rfl rfl ?_
    refine WL.nil (WE.then_normal (WC.sub (fr' := [(0, _), (7, _), (8, _), (22, _), (23, _), (24, _), (28, _), (30, _), (31, _)]) ?_ ⟨rfl, rfl, rfl, rfl, rfl, rfl, rfl, rfl, rfl, trivial⟩))
    refine WC.cond rfl (fun q7 => ?_) (fun q7 => ?_)
    ·
     try simp only [Z1, Z2, Z3, Z4, Z5, Z6, Z7, Z8, Z9, Z0] at q7
     refine WC.seq ?_
     rw [if_pos q7]
     obtain ⟨hik, hwd⟩ := Num.of (ik := .u8) (w := 1) hok q7 (by decide)
     rw [hik]
     refine WC.region ?_
     refine WL.q (oq_assign rfl) rfl rfl rfl ?_
     refine WL.nil (WE.then_normal (WC.sub (fr' := [(0, _), (9, _), (22, _), (23, _), (24, _)]) ?_ ⟨rfl, rfl, rfl, rfl, rfl, trivial⟩))
     refine WC.region ?_
     refine WL.q (oq_move rfl) rfl rfl rfl ?_
     refine WL.q (oq_convw Tryz.underlying121 Tryz.underlying40 rfl) rfl rfl rfl ?_
     refine WL.q (oq_assign rfl) rfl rfl rfl ?_
     refine WL.q (oq_assign rfl) rfl rfl rfl ?_
     refine WL.nil (WE.block_normal ?_)
     refine WE.meet () ?_ ⟨rfl, rfl, (gti rfl (by (try dsimp only); omega)), rfl, rfl, rfl, trivial⟩ (List.Perm.refl _)
     try dsimp only
     all_goals trivial
    ·
     try simp only [Z1, Z2, Z3, Z4, Z5, Z6, Z7, Z8, Z9, Z0] at q7
     refine WC.seq (WC.region ?_)
     refine WL.q (oq_askG conc5 ty5 rfl) rfl rfl rfl ?_
     refine WL.q (oq_extract rfl rfl) rfl rfl rfl ?_
     refine WL.q (oq_extract rfl rfl) rfl rfl rfl ?_
     refine WL.nil (WE.then_normal (WC.sub (fr' := [(0, _), (7, _), (8, _), (22, _), (23, _), (24, _), (28, _), (35, _), (36, _)]) ?_ ⟨rfl, rfl, rfl, rfl, rfl, rfl, rfl, rfl, rfl, trivial⟩))
     refine WC.cond rfl (fun q10 => ?_) (fun q10 => ?_)
     ·
      try simp only [Z1, Z2, Z3, Z4, Z5, Z6, Z7, Z8, Z9, Z0] at q10
      refine WC.seq ?_
      rw [if_pos q10]
      obtain ⟨hik, hwd⟩ := Num.of (ik := .u8) (w := 1) hok q10 (by decide)
      rw [hik]
      refine WC.region ?_
      refine WL.q (oq_assign rfl) rfl rfl rfl ?_
      refine WL.nil (WE.then_normal (WC.sub (fr' := [(0, _), (10, _), (22, _), (23, _), (24, _)]) ?_ ⟨rfl, rfl, rfl, rfl, rfl, trivial⟩))
      refine WC.region ?_
      refine WL.q (oq_move rfl) rfl rfl rfl ?_
      refine WL.q (oq_convw Tryz.underlying5 Tryz.underlying40 rfl) rfl rfl rfl ?_
      refine WL.q (oq_assign rfl) rfl rfl rfl ?_
      refine WL.q (oq_assign rfl) rfl rfl rfl ?_
      refine WL.nil (WE.block_normal ?_)
      refine WE.meet () ?_ ⟨rfl, rfl, (gti rfl (by (try dsimp only); omega)), rfl, rfl, rfl, trivial⟩ (List.Perm.refl _)
      try dsimp only
      all_goals trivial
     ·
      try simp only [Z1, Z2, Z3, Z4, Z5, Z6, Z7, Z8, Z9, Z0] at q10
      refine WC.seq (WC.region ?_)
      refine WL.q (oq_askG conc60 ty60 rfl) rfl rfl rfl ?_
      refine WL.q (oq_extract rfl rfl) rfl rfl rfl ?_
      refine WL.q (oq_extract rfl rfl) rfl rfl rfl ?_
      refine WL.nil (WE.then_normal (WC.sub (fr' := [(0, _), (7, _), (8, _), (22, _), (23, _), (24, _), (28, _), (40, _), (41, _)]) ?_ ⟨rfl, rfl, rfl, rfl, rfl, rfl, rfl, rfl, rfl, trivial⟩))
      refine WC.cond rfl (fun q13 => ?_) (fun q13 => ?_)
      ·
       try simp only [Z1, Z2, Z3, Z4, Z5, Z6, Z7, Z8, Z9, Z0] at q13
       refine WC.seq ?_
       rw [if_pos q13]
       obtain ⟨hik, hwd⟩ := Num.of (ik := .i8) (w := 1) hok q13 (by decide)
       rw [hik]
       refine WC.region ?_
       refine WL.q (oq_assign rfl) rfl rfl rfl ?_
       refine WL.nil (WE.then_normal (WC.sub (fr' := [(0, _), (11, _), (22, _), (23, _), (24, _)]) ?_ ⟨rfl, rfl, rfl, rfl, rfl, trivial⟩))
       refine WC.region ?_
       refine WL.q (oq_move rfl) rfl rfl rfl ?_
       refine WL.q (oq_convw Tryz.underlying60 Tryz.underlying40 rfl) rfl rfl rfl ?_
       refine WL.q (oq_assign rfl) rfl rfl rfl ?_
       refine WL.q (oq_assign rfl) rfl rfl rfl ?_
       refine WL.nil (WE.block_normal ?_)
       refine WE.meet () ?_ ⟨rfl, rfl, (gti rfl (by (try dsimp only); omega)), rfl, rfl, rfl, trivial⟩ (List.Perm.refl _)
       try dsimp only
       all_goals trivial
      ·
       try simp only [Z1, Z2, Z3, Z4, Z5, Z6, Z7, Z8, Z9, Z0] at q13
       refine WC.seq (WC.region ?_)
       refine WL.q (oq_askG conc122 ty122 rfl) rfl rfl rfl ?_
       refine WL.q (oq_extract rfl rfl) rfl rfl rfl ?_
       refine WL.q (oq_extract rfl rfl) rfl rfl rfl ?_
       refine WL.nil (WE.then_normal (WC.sub (fr' := [(0, _), (7, _), (8, _), (22, _), (23, _), (24, _), (28, _), (45, _), (46, _)]) ?_ ⟨rfl, rfl, rfl, rfl, rfl, rfl, rfl, rfl, rfl, trivial⟩))
       refine WC.cond rfl (fun q16 => ?_) (fun q16 => ?_)
       ·
        try simp only [Z1, Z2, Z3, Z4, Z5, Z6, Z7, Z8, Z9, Z0] at q16
        refine WC.seq ?_
        rw [if_pos q16]
        obtain ⟨hik, hwd⟩ := Num.of (ik := .u16) (w := 2) hok q16 (by decide)
        rw [hik]
        refine WC.region ?_
        refine WL.q (oq_assign rfl) rfl rfl rfl ?_
        refine WL.nil (WE.then_normal (WC.sub (fr' := [(0, _), (12, _), (22, _), (23, _), (24, _)]) ?_ ⟨rfl, rfl, rfl, rfl, rfl, trivial⟩))
        refine WC.region ?_
        refine WL.q (oq_move rfl) rfl rfl rfl ?_
        refine WL.q (oq_convw Tryz.underlying122 Tryz.underlying40 rfl) rfl rfl rfl ?_
        refine WL.q (oq_assign rfl) rfl rfl rfl ?_
        refine WL.q (oq_assign rfl) rfl rfl rfl ?_
        refine WL.nil (WE.block_normal ?_)
        refine WE.meet () ?_ ⟨rfl, rfl, (gti rfl (by (try dsimp only); omega)), rfl, rfl, rfl, trivial⟩ (List.Perm.refl _)
        try dsimp only
        all_goals trivial
       ·
        try simp only [Z1, Z2, Z3, Z4, Z5, Z6, Z7, Z8, Z9, Z0] at q16
        refine WC.seq (WC.region ?_)
        refine WL.q (oq_askG conc62 ty62 rfl) rfl rfl rfl ?_
        refine WL.q (oq_extract rfl rfl) rfl rfl rfl ?_
        refine WL.q (oq_extract rfl rfl) rfl rfl rfl ?_
        refine WL.nil (WE.then_normal (WC.sub (fr' := [(0, _), (7, _), (8, _), (22, _), (23, _), (24, _), (28, _), (50, _), (51, _)]) ?_ ⟨rfl, rfl, rfl, rfl, rfl, rfl, rfl, rfl, rfl, trivial⟩))
        refine WC.cond rfl (fun q19 => ?_) (fun q19 => ?_)
        ·
         try simp only [Z1, Z2, Z3, Z4, Z5, Z6, Z7, Z8, Z9, Z0] at q19
         refine WC.seq ?_
         rw [if_pos q19]
         obtain ⟨hik, hwd⟩ := Num.of (ik := .i16) (w := 2) hok q19 (by decide)
         rw [hik]
         refine WC.region ?_
         refine WL.q (oq_assign rfl) rfl rfl rfl ?_
         refine WL.nil (WE.then_normal (WC.sub (fr' := [(0, _), (13, _), (22, _), (23, _), (24, _)]) ?_ ⟨rfl, rfl, rfl, rfl, rfl, trivial⟩))
         refine WC.region ?_
         refine WL.q (oq_move rfl) rfl rfl rfl ?_
         refine WL.q (oq_convw Tryz.underlying62 Tryz.underlying40 rfl) rfl rfl rfl ?_
         refine WL.q (oq_assign rfl) rfl rfl rfl ?_
         refine WL.q (oq_assign rfl) rfl rfl rfl ?_
         refine WL.nil (WE.block_normal ?_)
         refine WE.meet () ?_ ⟨rfl, rfl, (gti rfl (by (try dsimp only); omega)), rfl, rfl, rfl, trivial⟩ (List.Perm.refl _)
         try dsimp only
         all_goals trivial
        ·
         try simp only [Z1, Z2, Z3, Z4, Z5, Z6, Z7, Z8, Z9, Z0] at q19
         refine WC.seq (WC.region ?_)
         refine WL.q (oq_askG conc82 ty82 rfl) rfl rfl rfl ?_
         refine WL.q (oq_extract rfl rfl) rfl rfl rfl ?_
         refine WL.q (oq_extract rfl rfl) rfl rfl rfl ?_
         refine WL.nil (WE.then_normal (WC.sub (fr' := [(0, _), (7, _), (8, _), (22, _), (23, _), (24, _), (28, _), (55, _), (56, _)]) ?_ ⟨rfl, rfl, rfl, rfl, rfl, rfl, rfl, rfl, rfl, trivial⟩))
         refine WC.cond rfl (fun q22 => ?_) (fun q22 => ?_)
         ·
          try simp only [Z1, Z2, Z3, Z4, Z5, Z6, Z7, Z8, Z9, Z0] at q22
          refine WC.seq ?_
          rw [if_pos q22]
          obtain ⟨hik, hwd⟩ := Num.of (ik := .u32) (w := 4) hok q22 (by decide)
          rw [hik]
          refine WC.region ?_
          refine WL.q (oq_assign rfl) rfl rfl rfl ?_
          refine WL.nil (WE.then_normal (WC.sub (fr' := [(0, _), (14, _), (22, _), (23, _), (24, _)]) ?_ ⟨rfl, rfl, rfl, rfl, rfl, trivial⟩))
          refine WC.region ?_
          refine WL.q (oq_move rfl) rfl rfl rfl ?_
          refine WL.q (oq_convw Tryz.underlying82 Tryz.underlying40 rfl) rfl rfl rfl ?_
          refine WL.q (oq_assign rfl) rfl rfl rfl ?_
          refine WL.q (oq_assign rfl) rfl rfl rfl ?_
          refine WL.nil (WE.block_normal ?_)
          refine WE.meet () ?_ ⟨rfl, rfl, (gti rfl (by (try dsimp only); omega)), rfl, rfl, rfl, trivial⟩ (List.Perm.refl _)
          try dsimp only
          all_goals trivial
         ·
          try simp only [Z1, Z2, Z3, Z4, Z5, Z6, Z7, Z8, Z9, Z0] at q22
          refine WC.seq (WC.region ?_)
          refine WL.q (oq_askG conc63 ty63 rfl) rfl rfl rfl ?_
          refine WL.q (oq_extract rfl rfl) rfl rfl rfl ?_
          refine WL.q (oq_extract rfl rfl) rfl rfl rfl ?_
          refine WL.nil (WE.then_normal (WC.sub (fr' := [(0, _), (7, _), (8, _), (22, _), (23, _), (24, _), (28, _), (60, _), (61, _)]) ?_ ⟨rfl, rfl, rfl, rfl, rfl, rfl, rfl, rfl, rfl, trivial⟩))
          refine WC.cond rfl (fun q25 => ?_) (fun q25 => ?_)
          ·
           try simp only [Z1, Z2, Z3, Z4, Z5, Z6, Z7, Z8, Z9, Z0] at q25
           refine WC.seq ?_
           rw [if_pos q25]
           obtain ⟨hik, hwd⟩ := Num.of (ik := .i32) (w := 4) hok q25 (by decide)
           rw [hik]
           refine WC.region ?_
           refine WL.q (oq_assign rfl) rfl rfl rfl ?_
           refine WL.nil (WE.then_normal (WC.sub (fr' := [(0, _), (15, _), (22, _), (23, _), (24, _)]) ?_ ⟨rfl, rfl, rfl, rfl, rfl, trivial⟩))
           refine WC.region ?_
           refine WL.q (oq_move rfl) rfl rfl rfl ?_
           refine WL.q (oq_convw Tryz.underlying63 Tryz.underlying40 rfl) rfl rfl rfl ?_
           refine WL.q (oq_assign rfl) rfl rfl rfl ?_
           refine WL.q (oq_assign rfl) rfl rfl rfl ?_
           refine WL.nil (WE.block_normal ?_)
           refine WE.meet () ?_ ⟨rfl, rfl, (gti rfl (by (try dsimp only); omega)), rfl, rfl, rfl, trivial⟩ (List.Perm.refl _)
           try dsimp only
           all_goals trivial
          ·
           try simp only [Z1, Z2, Z3, Z4, Z5, Z6, Z7, Z8, Z9, Z0] at q25
           refine WC.seq (WC.region ?_)
           refine WL.q (oq_askG conc2 ty2 rfl) rfl rfl rfl ?_
           refine WL.q (oq_extract rfl rfl) rfl rfl rfl ?_
           refine WL.q (oq_extract rfl rfl) rfl rfl rfl ?_
           refine WL.nil (WE.then_normal (WC.sub (fr' := [(0, _), (7, _), (8, _), (22, _), (23, _), (24, _), (28, _), (65, _), (66, _)]) ?_ ⟨rfl, rfl, rfl, rfl, rfl, rfl, rfl, rfl, rfl, trivial⟩))
           refine WC.cond rfl (fun q28 => ?_) (fun q28 => ?_)
           ·
            try simp only [Z1, Z2, Z3, Z4, Z5, Z6, Z7, Z8, Z9, Z0] at q28
            refine WC.seq ?_
            rw [if_pos q28]
            obtain ⟨hik, hwd⟩ := Num.of (ik := .i64) (w := 8) hok q28 (by decide)
            rw [hik]
            refine WC.region ?_
            refine WL.q (oq_assign rfl) rfl rfl rfl ?_
            refine WL.nil (WE.then_normal (WC.sub (fr' := [(0, _), (8, _), (16, _), (22, _), (23, _), (24, _)]) ?_ ⟨rfl, rfl, rfl, rfl, rfl, rfl, trivial⟩))
            refine WC.region ?_
            refine WL.q (oq_move rfl) rfl rfl rfl ?_
            refine WL.q (oq_convw Tryz.underlying2 Tryz.underlying40 rfl) rfl rfl rfl ?_
            refine WL.q (oq_assign rfl) rfl rfl rfl ?_
            refine WL.nil (WE.block_normal ?_)
            refine WE.meet () ?_ ⟨rfl, rfl, (gti rfl (by (try dsimp only); omega)), rfl, rfl, rfl, trivial⟩ (List.Perm.refl _)
            try dsimp only
            all_goals trivial
           ·
            try simp only [Z1, Z2, Z3, Z4, Z5, Z6, Z7, Z8, Z9, Z0] at q28
            refine WC.seq (WC.region ?_)
            refine WL.q (oq_askG conc64 ty64 rfl) rfl rfl rfl ?_
            refine WL.q (oq_extract rfl rfl) rfl rfl rfl ?_
            refine WL.q (oq_extract rfl rfl) rfl rfl rfl ?_
            refine WL.nil (WE.then_normal (WC.sub (fr' := [(0, _), (7, _), (8, _), (22, _), (23, _), (24, _), (70, _), (71, _)]) ?_ ⟨rfl, rfl, rfl, rfl, rfl, rfl, rfl, rfl, trivial⟩))
            refine WC.cond rfl (fun q31 => ?_) (fun q31 => ?_)
            ·
             try simp only [Z1, Z2, Z3, Z4, Z5, Z6, Z7, Z8, Z9, Z0] at q31
             refine WC.seq ?_
             rw [if_pos q31]
             obtain ⟨hik, hwd⟩ := Num.of (ik := .i64) (w := 8) hok q31 (by decide)
             rw [hik]
             refine WC.region ?_
             refine WL.q (oq_assign rfl) rfl rfl rfl ?_
             refine WL.nil (WE.then_normal (WC.sub (fr' := [(0, _), (8, _), (17, _), (22, _), (23, _), (24, _)]) ?_ ⟨rfl, rfl, rfl, rfl, rfl, rfl, trivial⟩))
             refine WC.region ?_
             refine WL.q (oq_move rfl) rfl rfl rfl ?_
             refine WL.q (oq_convw Tryz.underlying64 Tryz.underlying40 rfl) rfl rfl rfl ?_
             refine WL.q (oq_assign rfl) rfl rfl rfl ?_
             refine WL.nil (WE.block_normal ?_)
             refine WE.meet () ?_ ⟨rfl, rfl, (gti rfl (by (try dsimp only); omega)), rfl, rfl, rfl, trivial⟩ (List.Perm.refl _)
             try dsimp only
             all_goals trivial
            ·
             try simp only [Z1, Z2, Z3, Z4, Z5, Z6, Z7, Z8, Z9, Z0] at q31
             first | contradiction | (exfalso; omega) | (exfalso; simp_all [Num.ok, Num.kinds]; done) | (exfalso; simp_all [Num.ok, Num.kinds]; omega)
   ·rintro _ hp
    try dsimp only at hp
    show WC _ _ _ _ _ _ ([(0, .iface k r), (7, .int .u64 (IntKind.u64.wrap ds[i].x)), (8, I (ds[i].w : Int)), (22, v), (23, I (ds.length : Int)), (24, I (i : Int))]) ([D, X, R0])
    refine WC.seq ?_
    refine WC.add0 ?_
    refine WC.region ?_
    refine WL.q (oq_assign rfl) rfl rfl rfl ?_
    refine WL.nil (WE.then_normal (WC.sub (fr' := [(0, _), (7, _), (8, _), (18, _), (22, _), (23, _), (24, _)]) ?_ ⟨rfl, rfl, rfl, rfl, rfl, rfl, rfl, trivial⟩))
    refine WC.seq (WC.seq (WC.region ?_))
    refine WL.q (oq_move rfl) rfl rfl rfl ?_
    refine WL.q (oq_sub rfl rfl (by rw [i64_lo, i64_hi]; (first | omega | (simp only [List.length_cons, List.length_nil, List.length_append, List.length_drop, List.length_take]; omega)))) rfl rfl rfl ?_
    refine WL.q (oq_assign rfl) rfl rfl rfl ?_
    refine WL.nil (WE.then_normal (WC.sub (fr' := [(0, _), (7, _), (18, _), (19, _), (22, _), (23, _), (24, _)]) ?_ ⟨rfl, rfl, rfl, rfl, rfl, rfl, rfl, trivial⟩))
    refine WC.block ?_
    refine WC.loop (ι := Nat × Value × Hp) (fun i_ => (fun (j : Nat) (u : Value) (B : Hp) => [(0, .iface k r), (7, .int .u64 (IntKind.u64.wrap ds[i].x)), (18, u), (19, I ((j : Int) - 1)), (22, v), (23, I (ds.length : Int)), (24, I (i : Int))]) i_.1 i_.2.1 i_.2.2) (fun i_ => (fun (j : Nat) (u : Value) (B : Hp) => [B, D, X, R0]) i_.1 i_.2.1 i_.2.2) (fun i_ => (fun (j : Nat) (u : Value) (B : Hp) => j ≤ ds[i].w ∧ OwS w0.heap.size 5 1 u B (ds[i].w - j) (bytesV ((be ds[i].w (IntKind.u64.wrap ds[i].x)).take (ds[i].w - j)))) i_.1 i_.2.1 i_.2.2) (fun i_ => (fun (j : Nat) (u : Value) (B : Hp) => j) i_.1 i_.2.1 i_.2.2) ((ds[i].w, _, _)) ?_ ⟨rfl, rfl, rfl, rfl, rfl, rfl, rfl, trivial⟩ (List.Perm.refl _) ?_
    ·try dsimp only
     exact ⟨by omega, by rw [Nat.sub_self]; exact OwS.nil _ _ _⟩
    ·rintro ⟨j, u, B⟩ hp
     try dsimp only at hp
     obtain ⟨hm, ho⟩ := hp
     show WC _ _ _ _ _ _ ([(0, .iface k r), (7, .int .u64 (IntKind.u64.wrap ds[i].x)), (18, u), (19, I ((j : Int) - 1)), (22, v), (23, I (ds.length : Int)), (24, I (i : Int))]) ([B, D, X, R0])
     refine WC.seq (WC.seq (WC.region ?_))
     refine WL.q (oq_move rfl) rfl rfl rfl ?_
     refine WL.q (oq_geq rfl rfl) rfl rfl rfl ?_
     refine WL.nil (WE.then_normal (WC.sub (fr' := [(0, _), (7, _), (18, _), (19, _), (22, _), (23, _), (24, _), (77, _)]) ?_ ⟨rfl, rfl, rfl, rfl, rfl, rfl, rfl, rfl, trivial⟩))
     refine WC.cond rfl (fun q36 => ?_) (fun q36 => ?_)
     ·
      try simp only [Z1, Z2, Z3, Z4, Z5, Z6, Z7, Z8, Z9, Z0] at q36
      refine WC.skip (WE.then_normal (WC.sub (fr' := [(0, _), (7, _), (18, _), (19, _), (22, _), (23, _), (24, _)]) ?_ ⟨rfl, rfl, rfl, rfl, rfl, rfl, rfl, trivial⟩))
      refine WC.seq (WC.block (WC.region ?_))
      refine WL.q (oq_move rfl) rfl rfl rfl ?_
      refine WL.q (oq_move rfl) rfl rfl rfl ?_
      refine WL.q (oq_move rfl) rfl rfl rfl ?_
      refine WL.q (oq_mul rfl rfl (by rw [i64_lo, i64_hi]; (first | omega | (simp only [List.length_cons, List.length_nil, List.length_append, List.length_drop, List.length_take]; omega)))) rfl rfl rfl ?_
      refine WL.q (oq_shr rfl rfl (by omega)) rfl rfl rfl ?_
      refine WL.q (oq_convw Tryz.underlying40 Tryz.underlying5 rfl) rfl rfl rfl ?_
      refine WL.append1 ho Tryz.underlying31 ty5 rfl (by decide) (fun _ => rfl) rfl rfl (by unfold maxLen; omega) (by omega) rfl rfl (fun _ => rfl) rfl fun v38 A38 u38 ho38 hne38 => ?_
      refine WL.q (oq_assign rfl) rfl rfl rfl ?_
      refine WL.nil (WE.block_normal (WE.then_normal (WC.sub (fr' := [(0, _), (7, _), (18, _), (19, _), (22, _), (23, _), (24, _)]) ?_ ⟨rfl, rfl, rfl, rfl, rfl, rfl, rfl, trivial⟩)))
      refine WC.region ?_
      rw [be_snocj (show 0 < j by omega) hm hw8] at ho38
      refine WL.q (oq_move rfl) rfl rfl rfl ?_
      refine WL.q (oq_sub rfl rfl (by rw [i64_lo, i64_hi]; (first | omega | (simp only [List.length_cons, List.length_nil, List.length_append, List.length_drop, List.length_take]; omega)))) rfl rfl rfl ?_
      refine WL.q (oq_assign rfl) rfl rfl rfl ?_
      refine WL.nil ?_
      refine WE.again (j - 1, _, _) ?_ ?_ ⟨rfl, rfl, rfl, (gti rfl (by (try dsimp only); omega)), rfl, rfl, rfl, trivial⟩ (List.Perm.refl _)
      ·try dsimp only
       exact ⟨by omega, by rw [show ds[i].w - (j - 1) = ds[i].w - j + 1 by omega] at ho38 ⊢; exact ho38⟩
      ·(try dsimp only); omega
     ·
      try simp only [Z1, Z2, Z3, Z4, Z5, Z6, Z7, Z8, Z9, Z0] at q36
      refine WC.exit (WE.then_exit (WE.then_exit (WE.block_same (WE.then_normal (WC.sub (fr' := [(0, _), (18, _), (22, _), (23, _), (24, _)]) ?_ ⟨rfl, rfl, rfl, rfl, rfl, trivial⟩)))))
      refine WC.seq ?_
      obtain rfl : j = 0 := by omega
      rw [Nat.sub_zero, be_u64 _ _ hw8, List.take_of_length_le (by rw [be_len]; omega)] at ho
      have hbl := be_len ds[i].w ds[i].x
      have hro : RdS 1 u B (be ds[i].w ds[i].x).length (bytesV (be ds[i].w ds[i].x)) := by rw [hbl]; exact ho.rd
      have hbn := bytesN_len (ds.take i) fun d hd => hds d (List.mem_of_mem_take hd)
      rw [List.length_take] at hbn
      refine WC.region ?_
      refine WL.q (oq_move rfl) rfl rfl rfl ?_
      refine WL.q (oq_move rfl) rfl rfl rfl ?_
      refine WL.f2 ?_
      refine WL.callWE (fun a w hf => ent_inv1 hW.inv rfl rfl hf w) (hW.run _ X u B _ hX hro (by rw [List.length_append]; omega) (by omega)) rfl rfl rfl rfl fun v39_2 Hs39_2 hR39_2 => ?_
      obtain ⟨X2, rfl, rfl, hX2⟩ := hR39_2
      refine WL.app2 ?_
      refine WL.q (oq_move rfl) rfl rfl rfl ?_
      refine WL.q (oq_extract rfl rfl) rfl rfl rfl ?_
      refine WL.q (oq_extract rfl rfl) rfl rfl rfl ?_
      refine WL.q (oq_assign rfl) rfl rfl rfl ?_
      refine WL.q (oq_assign rfl) rfl rfl rfl ?_
      refine WL.nil (WE.then_normal (WC.sub (fr' := [(0, _), (21, _), (22, _), (23, _), (24, _)]) ?_ ⟨rfl, rfl, rfl, rfl, rfl, trivial⟩))
      refine WC.seq (WC.region ?_)
      refine WL.q (oq_move rfl) rfl rfl rfl ?_
      refine WL.q (oq_ineq Tryz.underlying49 rfl (.inl rfl)) rfl rfl rfl ?_
      refine WL.nil (WE.then_normal (WC.sub (fr' := [(0, _), (21, _), (22, _), (23, _), (24, _), (95, _)]) ?_ ⟨rfl, rfl, rfl, rfl, rfl, rfl, trivial⟩))
      refine WC.cond rfl (fun q40 => ?_) (fun q40 => ?_)
      ·
       try simp only [Z1, Z2, Z3, Z4, Z5, Z6, Z7, Z8, Z9, Z0] at q40
       first | contradiction | (exfalso; omega) | (exfalso; simp_all [Num.ok, Num.kinds]; done) | (exfalso; simp_all [Num.ok, Num.kinds]; omega)
      ·
       try simp only [Z1, Z2, Z3, Z4, Z5, Z6, Z7, Z8, Z9, Z0] at q40
       refine WC.skip (WE.block_normal (WE.then_normal (WC.sub (fr' := [(0, _), (22, _), (23, _), (24, _)]) ?_ ⟨rfl, rfl, rfl, rfl, trivial⟩)))
       refine WC.region ?_
       refine WL.q (oq_add rfl rfl (by rw [i64_lo, i64_hi]; (first | omega | (simp only [List.length_cons, List.length_nil, List.length_append, List.length_drop, List.length_take]; omega)))) rfl rfl rfl ?_
       refine WL.q (oq_move rfl) rfl rfl rfl ?_
       refine WL.nil ?_
       refine WE.f1 ?_
       refine WE.forget ho.fresh ?_
       refine WE.f2 ?_
       refine WE.f1 ?_
       refine WE.f2 ?_
       refine WE.again (i + 1, X2) ?_ ?_ ⟨rfl, rfl, rfl, rfl, trivial⟩ (List.Perm.refl _)
       ·try dsimp only
        exact ⟨by omega, by rw [bytesN_snoc ds i hlt, ← List.append_assoc]; exact hX2⟩
       ·(try dsimp only); omega
  ·
   try simp only [Z1, Z2, Z3, Z4, Z5, Z6, Z7, Z8, Z9, Z0] at q2
   refine WC.exit (WE.then_exit (WE.then_exit (WE.block_same (WE.then_normal (WC.sub (fr' := []) ?_ trivial)))))
   refine WC.seq ?_
   obtain rfl : i = ds.length := by omega
   rw [List.take_length] at hX
   refine WC.region ?_
   refine WL.q (oq_assign rfl) rfl rfl rfl ?_
   refine WL.nil (WE.then_normal (WC.sub (fr' := [(4, _)]) ?_ ⟨rfl, trivial⟩))
   refine WC.ret ?_
   refine WE.endW2 (.inl rfl) (res1 Tryz.results30 rfl) ?_
   exact ⟨_, rfl, rfl, hX⟩
end EE
end Go.Proofs.YtinkaobaboffcaaGreatDoor
/- Values written. -/
namespace Go.Proofs.YtinkaobaboffcaaGreatDoor
open Go Go.RowKit V EA EB EC ED EE
set_option linter.unusedSimpArgs false
set_option linter.unusedVariables false
set_option maxRecDepth 10000
namespace EF
theorem call30 : Callable Tryz.prog 30 := ⟨_, Tryz.func30, rfl, by kernel_rfl⟩
theorem flat5 : Flat Tryz.prog 5 := ⟨_, Tryz.underlying5, by simp⟩
theorem flat121 : Flat Tryz.prog 121 := ⟨_, Tryz.underlying121, by simp⟩
theorem flat122 : Flat Tryz.prog 122 := ⟨_, Tryz.underlying122, by simp⟩
theorem ty5 : Ty Tryz.prog 5 (.int .u8 0) 1 1 := ty_of (by kernel_rfl)
theorem ty20 : Ty Tryz.prog 20 .nilIface 1 16 := ty_of (by kernel_rfl)
theorem ty105 : Ty Tryz.prog 105 (.agg #[(.int .u8 0), (.int .u8 0), (.int .u8 0), (.int .u8 0), (.int .u8 0), (.int .u8 0), (.int .u8 0), (.int .u8 0), (.int .u8 0), (.int .u8 0), (.int .u8 0), (.int .u8 0), (.int .u8 0), (.int .u8 0), (.int .u8 0), (.int .u8 0), (.int .u8 0), (.int .u8 0), (.int .u8 0), (.int .u8 0), (.int .u8 0), (.int .u8 0), (.int .u8 0), (.int .u8 0), (.int .u8 0), (.int .u8 0), (.int .u8 0), (.int .u8 0), (.int .u8 0), (.int .u8 0), (.int .u8 0), (.int .u8 0), (.int .u8 0), (.int .u8 0), (.int .u8 0), (.int .u8 0), (.int .u8 0), (.int .u8 0), (.int .u8 0), (.int .u8 0), (.int .u8 0), (.int .u8 0), (.int .u8 0), (.int .u8 0), (.int .u8 0), (.int .u8 0), (.int .u8 0), (.int .u8 0), (.int .u8 0), (.int .u8 0), (.int .u8 0), (.int .u8 0), (.int .u8 0), (.int .u8 0), (.int .u8 0), (.int .u8 0), (.int .u8 0), (.int .u8 0), (.int .u8 0), (.int .u8 0), (.int .u8 0), (.int .u8 0), (.int .u8 0), (.int .u8 0), (.int .u8 0), (.int .u8 0), (.int .u8 0), (.int .u8 0), (.int .u8 0), (.int .u8 0), (.int .u8 0), (.int .u8 0), (.int .u8 0), (.int .u8 0), (.int .u8 0), (.int .u8 0), (.int .u8 0), (.int .u8 0), (.int .u8 0), (.int .u8 0), (.int .u8 0), (.int .u8 0), (.int .u8 0), (.int .u8 0), (.int .u8 0), (.int .u8 0), (.int .u8 0), (.int .u8 0), (.int .u8 0), (.int .u8 0), (.int .u8 0), (.int .u8 0), (.int .u8 0), (.int .u8 0), (.int .u8 0), (.int .u8 0), (.int .u8 0), (.int .u8 0), (.int .u8 0), (.int .u8 0), (.int .u8 0), (.int .u8 0), (.int .u8 0), (.int .u8 0), (.int .u8 0), (.int .u8 0), (.int .u8 0), (.int .u8 0), (.int .u8 0), (.int .u8 0), (.int .u8 0), (.int .u8 0), (.int .u8 0), (.int .u8 0), (.int .u8 0), (.int .u8 0), (.int .u8 0), (.int .u8 0), (.int .u8 0), (.int .u8 0), (.int .u8 0), (.int .u8 0), (.int .u8 0), (.int .u8 0), (.int .u8 0), (.int .u8 0), (.int .u8 0), (.int .u8 0), (.int .u8 0), (.int .u8 0), (.int .u8 0), (.int .u8 0), (.int .u8 0), (.int .u8 0), (.int .u8 0), (.int .u8 0), (.int .u8 0), (.int .u8 0), (.int .u8 0), (.int .u8 0), (.int .u8 0), (.int .u8 0), (.int .u8 0), (.int .u8 0), (.int .u8 0), (.int .u8 0), (.int .u8 0), (.int .u8 0), (.int .u8 0), (.int .u8 0), (.int .u8 0), (.int .u8 0), (.int .u8 0), (.int .u8 0), (.int .u8 0), (.int .u8 0), (.int .u8 0), (.int .u8 0), (.int .u8 0), (.int .u8 0), (.int .u8 0), (.int .u8 0), (.int .u8 0), (.int .u8 0), (.int .u8 0), (.int .u8 0), (.int .u8 0), (.int .u8 0), (.int .u8 0), (.int .u8 0), (.int .u8 0), (.int .u8 0), (.int .u8 0), (.int .u8 0), (.int .u8 0), (.int .u8 0), (.int .u8 0), (.int .u8 0), (.int .u8 0), (.int .u8 0), (.int .u8 0), (.int .u8 0), (.int .u8 0), (.int .u8 0), (.int .u8 0), (.int .u8 0), (.int .u8 0), (.int .u8 0), (.int .u8 0), (.int .u8 0), (.int .u8 0), (.int .u8 0), (.int .u8 0), (.int .u8 0), (.int .u8 0), (.int .u8 0), (.int .u8 0), (.int .u8 0), (.int .u8 0), (.int .u8 0), (.int .u8 0), (.int .u8 0), (.int .u8 0), (.int .u8 0), (.int .u8 0), (.int .u8 0), (.int .u8 0), (.int .u8 0), (.int .u8 0), (.int .u8 0), (.int .u8 0), (.int .u8 0), (.int .u8 0), (.int .u8 0), (.int .u8 0), (.int .u8 0), (.int .u8 0), (.int .u8 0), (.int .u8 0), (.int .u8 0), (.int .u8 0), (.int .u8 0), (.int .u8 0), (.int .u8 0), (.int .u8 0), (.int .u8 0), (.int .u8 0), (.int .u8 0), (.int .u8 0), (.int .u8 0), (.int .u8 0), (.int .u8 0), (.int .u8 0), (.int .u8 0), (.int .u8 0), (.int .u8 0), (.int .u8 0), (.int .u8 0), (.int .u8 0), (.int .u8 0), (.int .u8 0), (.int .u8 0), (.int .u8 0), (.int .u8 0), (.int .u8 0), (.int .u8 0), (.int .u8 0), (.int .u8 0), (.int .u8 0), (.int .u8 0), (.int .u8 0), (.int .u8 0), (.int .u8 0), (.int .u8 0), (.int .u8 0)]) 255 255 := ty_of (by kernel_rfl)
theorem ty121 : Ty Tryz.prog 121 (.int .u8 0) 1 1 := ty_of (by kernel_rfl)
theorem ty122 : Ty Tryz.prog 122 (.int .u16 0) 1 2 := ty_of (by kernel_rfl)
theorem conc5 : Conc Tryz.prog 5 := ⟨_, Tryz.underlying5, by simp⟩
theorem conc121 : Conc Tryz.prog 121 := ⟨_, Tryz.underlying121, by simp⟩
theorem conc122 : Conc Tryz.prog 122 := ⟨_, Tryz.underlying122, by simp⟩
theorem fld107_0 : Fld Tryz.prog 107 0 0 5 := fld_of Tryz.underlying107 rfl rfl rfl ty5 (by decide)
theorem fld107_1 : Fld Tryz.prog 107 1 1 105 := fld_of Tryz.underlying107 rfl rfl rfl ty105 (by decide)
theorem fld166_0 : Fld Tryz.prog 166 0 0 121 := fld_of Tryz.underlying166 rfl rfl rfl ty121 (by decide)
theorem fld166_1 : Fld Tryz.prog 166 1 1 122 := fld_of Tryz.underlying166 rfl rfl rfl ty122 (by decide)
theorem be1 (b : UInt8) : be 1 (b.toNat : Int) = [b] := by
 have e : beB 0 (b.toNat : Int) = b := by
  apply UInt8.toNat_inj.1
  have h := beB_nat 0 (b.toNat : Int)
  have := b.toNat_lt
  simp at h
  omega
 show [beB 0 _] = [b]
 rw [e]
theorem ok1 {a : Num} (h : a.ok) : ∀ d ∈ [a], d.ok := fun d hd => by rw [List.mem_singleton] at hd; subst hd; exact h
theorem ok2 {a b : Num} (h : a.ok) (h2 : b.ok) : ∀ d ∈ [a, b], d.ok := fun d hd => by
 rcases List.mem_cons.1 hd with rfl | hd
 ·exact h
 ·exact ok1 h2 d hd
theorem okT (x : Int) : Num.ok ⟨121, .u8, 1, x⟩ := by simp [Num.ok, Num.kinds]
theorem okB (x : Int) : Num.ok ⟨5, .u8, 1, x⟩ := by simp [Num.ok, Num.kinds]
theorem bytesN1 (k : TypeId) (ik : IntKind) (b : UInt8) : bytesN [⟨k, ik, 1, (b.toNat : Int)⟩] = [b] := by simp [bytesN, be1]
theorem bytesN2 (k : TypeId) (ik : IntKind) (b : UInt8) (d : Num) : bytesN [⟨k, ik, 1, (b.toNat : Int)⟩, d] = b :: be d.w d.x := by simp [bytesN, be1]
abbrev Then (Wt : List UInt8 → Hp → Prop) (acc : List UInt8) (R : List Hp) (w : Value) (Hs : List Hp) : Prop := ∃ G2, w = .nilIface ∧ Hs = G2 :: R ∧ Wt acc G2
theorem nameEnc (base : Nat) (k : TypeId) (r : Value) (f : FuncId) (Wt : List UInt8 → Hp → Prop) (hW : Wr base k r f Wt) (acc0 : List UInt8) (G : Hp) (hG : Wt acc0 G) (b0 : UInt8) (nm : List UInt8) (hnm : nm.length = 255) (hal : acc0.length ≤ 290000) : FnW Tryz.prog 36 [.agg (bytesV (b0 :: nm)).toArray, .iface k r] base [G] (Then Wt (acc0 ++ (b0 :: nm.take b0.toNat)) []) := by
 have hb8 := b0.toNat_lt
 refine FnW.enter (n := 30) Tryz.func36 rfl rfl fun w0 R0 hbase => ?_
 subst hbase
 show WC _ _ _ _ _ _ _ ([G, R0])
 refine WC.sub (fr' := [(0, _), (1, _)]) ?_ ⟨rfl, rfl, trivial⟩
 refine WC.seq (WC.region ?_)
 refine WL.box rfl rfl rfl fun hb hhb => ?_
 refine WL.asB (b0 :: nm) rfl ?_
 refine WL.q (oq_assign rfl) rfl rfl rfl ?_
 refine WL.nil (WE.then_normal (WC.sub (fr' := [(1, _), (2, _)]) ?_ ⟨rfl, rfl, trivial⟩))
 refine WC.seq (WC.seq (WC.region ?_))
 refine WL.q (oq_move rfl) rfl rfl rfl ?_
 refine WL.q (oq_fieldAddr fld107_0 rfl) rfl rfl rfl ?_
 refine WL.q (oq_load flat5 rfl (.head _) (List.mem_singleton.2 rfl) rfl) rfl rfl rfl ?_
 refine WL.q (oq_makeI conc5 rfl) rfl rfl rfl ?_
 refine WL.buildL Tryz.underlying120 ty20 rfl rfl (by decide) (by decide) rfl rfl rfl fun v1 A1 ho1 hne1 => ?_
 refine WL.f2 ?_
 refine WL.f1 ?_
 refine WL.callW2 (zzWrite _ k r f Wt hW acc0 G hG v1 A1 [⟨5, .u8, 1, (b0.toNat : Int)⟩] ho1.rd (ok1 (okB _)) (by simp) (by simp; omega)) call30 rfl rfl rfl fun v1_5 Hs1_5 hR1_5 => ?_
 obtain ⟨G2, rfl, rfl, hG2⟩ := hR1_5
 rw [bytesN1] at hG2
 refine WL.to2 ?_
 refine WL.q (oq_assign rfl) rfl rfl rfl ?_
 refine WL.nil (WE.then_normal (WC.sub (fr' := [(1, _), (2, _), (5, _)]) ?_ ⟨rfl, rfl, rfl, trivial⟩))
 refine WC.seq (WC.region ?_)
 refine WL.q (oq_move rfl) rfl rfl rfl ?_
 refine WL.q (oq_ineq Tryz.underlying49 rfl (.inl rfl)) rfl rfl rfl ?_
 refine WL.nil (WE.then_normal (WC.sub (fr' := [(1, _), (2, _), (5, _), (15, _)]) ?_ ⟨rfl, rfl, rfl, rfl, trivial⟩))
 refine WC.cond rfl (fun q2 => ?_) (fun q2 => ?_)
 ·
  try simp only [Z1, Z2, Z3, Z4, Z5, Z6, Z7, Z8, Z9, Z0] at q2
  first | contradiction | (exfalso; omega) | (exfalso; simp_all; done)
 ·
  try simp only [Z1, Z2, Z3, Z4, Z5, Z6, Z7, Z8, Z9, Z0] at q2
  refine WC.skip (WE.then_normal (WC.sub (fr' := [(1, _), (2, _)]) ?_ ⟨rfl, rfl, trivial⟩))
  refine WC.seq ?_
  have hnl : (nm.take b0.toNat).length = b0.toNat := by rw [List.length_take]; omega
  have hrd : RdS 1 (Sl hb (0 + 1 + 0) (b0.toNat - 0) (255 - 0)) (Bf hb 107 (b0 :: nm)) (nm.take b0.toNat).length (bytesV (nm.take b0.toNat)) := by
   rw [hnl]; exact Sl.rd (b := hb) (off := 1) (n := b0.toNat) (c := 255) (e := 107) (l := b0 :: nm) (by rw [List.length_cons]; omega) (by omega)
  refine WC.tailM (pl := []) (ql := [_, _, _, _, _, _, _, _]) (tl := [_, _, _, _, _, _]) [] [0, 1, 2, 3, 4, 5, 6, 7] 8 [9, 10, 11, 12, 13] (by kernel_rfl) (by kernel_rfl) (by kernel_rfl) (by kernel_rfl) (by kernel_rfl) (by kernel_rfl) (by decide) rfl rfl rfl (by decide) (by repeat (first | with_reducible exact QOk.body | with_reducible apply QOk.then | with_reducible apply QOk.block | exact QOk.body | apply QOk.then | apply QOk.block)) ?_
  refine WM.nil ?_
  refine WY.q (oq_move rfl) rfl rfl rfl ?_
  refine WY.q (oq_fieldAddr fld107_1 rfl) rfl rfl rfl ?_
  refine WY.q (oq_fieldAddr fld107_0 rfl) rfl rfl rfl ?_
  refine WY.q (oq_load flat5 rfl (.tail _ (.tail _ (.head _))) (List.mem_singleton.2 rfl) rfl) rfl rfl rfl ?_
  refine WY.q (oq_sliceArr (j := b0.toNat) Tryz.underlying105 ty5 rfl rfl ⟨_, rfl⟩ (by omega) (by omega)) rfl rfl rfl ?_
  refine WY.q (oq_makeMeth rfl) rfl rfl rfl ?_
  refine WY.q (oq_nilMeth rfl (hW.nok)) rfl rfl rfl ?_
  refine WY.q (oq_move rfl) rfl rfl rfl ?_
  refine WY.nil ?_
  refine WL.f2 ?_
  refine WL.f2 ?_
  refine WL.callWE (fun a w hf => ent_inv1 hW.inv rfl rfl hf w) (hW.run _ G2 _ (Bf hb 107 (b0 :: nm)) (nm.take b0.toNat) hG2 hrd (by rw [List.length_append]; simp only [List.length_singleton]; omega) (by rw [List.length_append]; simp only [List.length_singleton]; omega)) rfl rfl rfl rfl fun v4_8 Hs4_8 hR4_8 => ?_
  obtain ⟨G3, rfl, rfl, hG3⟩ := hR4_8
  refine WL.app2 ?_
  refine WL.q (oq_move rfl) rfl rfl rfl ?_
  refine WL.q (oq_extract rfl rfl) rfl rfl rfl ?_
  refine WL.q (oq_extract rfl rfl) rfl rfl rfl ?_
  refine WL.q (oq_assign rfl) rfl rfl rfl ?_
  refine WL.q (oq_assign rfl) rfl rfl rfl ?_
  refine WL.nil (WE.then_normal (WC.sub (fr' := [(7, _)]) ?_ ⟨rfl, trivial⟩))
  refine WC.seq (WC.region ?_)
  refine WL.q (oq_move rfl) rfl rfl rfl ?_
  refine WL.q (oq_assign rfl) rfl rfl rfl ?_
  refine WL.nil (WE.then_normal (WC.sub (fr' := [(4, _)]) ?_ ⟨rfl, trivial⟩))
  refine WC.ret ?_
  refine WE.f1 ?_
  refine WE.lose hhb ?_
  refine WE.f1 ?_
  refine WE.forget ho1.fresh ?_
  refine WE.endW1 (.inl rfl) (res1 Tryz.results36 rfl) ?_
  exact ⟨_, rfl, rfl, by rw [List.append_assoc] at hG3; exact hG3⟩
theorem encScalar (base : Nat) (k : TypeId) (r : Value) (f : FuncId) (Wt : List UInt8 → Hp → Prop) (hW : Wr base k r f Wt) (acc0 : List UInt8) (G : Hp) (hG : Wt acc0 G) (t : UInt8) (l1 l2 : Value) (d : Num) (hd : d.ok) (hal : acc0.length ≤ 290000) : FnW Tryz.prog 78 [.agg #[.int .u8 (t.toNat : Int), l1, l2], .iface k r, d.val] base [G] (Then Wt (acc0 ++ (t :: be d.w d.x)) []) := by
 refine FnW.enter (n := 14) Tryz.func78 rfl rfl fun w0 R0 hbase => ?_
 subst hbase
 show WC _ _ _ _ _ _ _ ([G, R0])
 refine WC.sub (fr' := [(0, _), (1, _), (2, _)]) ?_ ⟨rfl, rfl, rfl, trivial⟩
 refine WC.seq (WC.region ?_)
 refine WL.box rfl rfl rfl fun b0_0 hb0_0 => ?_
 refine WL.q (oq_assign rfl) rfl rfl rfl ?_
 refine WL.nil (WE.then_normal (WC.sub (fr' := [(1, _), (2, _), (3, _)]) ?_ ⟨rfl, rfl, rfl, trivial⟩))
 refine WC.seq (WC.region ?_)
 refine WL.q (oq_move rfl) rfl rfl rfl ?_
 refine WL.q (oq_fieldAddr fld166_0 rfl) rfl rfl rfl ?_
 refine WL.q (oq_load flat121 rfl (.head _) (List.mem_singleton.2 rfl) rfl) rfl rfl rfl ?_
 refine WL.q (oq_makeI conc121 rfl) rfl rfl rfl ?_
 refine WL.q (oq_move rfl) rfl rfl rfl ?_
 refine WL.buildL Tryz.underlying120 ty20 rfl rfl (by decide) (by decide) rfl rfl rfl fun v1 A1 ho1 hne1 => ?_
 refine WL.f2 ?_
 refine WL.f1 ?_
 refine WL.callW2 (zzWrite _ k r f Wt hW acc0 G hG v1 A1 [⟨121, .u8, 1, (t.toNat : Int)⟩, d] ho1.rd (ok2 (okT _) hd) (by simp) (by simp; omega)) call30 rfl rfl rfl fun v1_6 Hs1_6 hR1_6 => ?_
 obtain ⟨G2, rfl, rfl, hG2⟩ := hR1_6
 rw [bytesN2] at hG2
 refine WL.to2 ?_
 refine WL.q (oq_assign rfl) rfl rfl rfl ?_
 refine WL.nil (WE.then_normal (WC.sub (fr' := [(6, _)]) ?_ ⟨rfl, trivial⟩))
 refine WC.ret ?_
 refine WE.forget ho1.fresh ?_
 refine WE.f1 ?_
 refine WE.lose hb0_0 ?_
 refine WE.endW1 (.inl rfl) (res1 Tryz.results78 rfl) ?_
 exact ⟨_, rfl, rfl, hG2⟩
theorem encBytes (base : Nat) (k : TypeId) (r : Value) (f : FuncId) (Wt : List UInt8 → Hp → Prop) (hW : Wr base k r f Wt) (acc0 : List UInt8) (G : Hp) (hG : Wt acc0 G) (t : UInt8) (l1 l2 : Value) (s : Value) (Z : Hp) (data : List UInt8) (hr : RdS 1 s Z data.length (bytesV data)) (hdl : data.length ≤ 32767) (hal : acc0.length ≤ 250000) : FnW Tryz.prog 96 [.agg #[.int .u8 (t.toNat : Int), l1, l2], .iface k r, s] base [G, Z] (Then Wt (acc0 ++ (t :: be 2 data.length ++ data)) [Z]) := by
 refine FnW.enter (n := 40) Tryz.func96 rfl rfl fun w0 R0 hbase => ?_
 subst hbase
 show WC _ _ _ _ _ _ _ ([G, Z, R0])
 refine WC.sub (fr' := [(0, _), (1, _), (2, _)]) ?_ ⟨rfl, rfl, rfl, trivial⟩
 refine WC.seq (WC.region ?_)
 refine WL.box rfl rfl rfl fun b0_0 hb0_0 => ?_
 refine WL.q (oq_assign rfl) rfl rfl rfl ?_
 refine WL.nil (WE.then_normal (WC.sub (fr' := [(1, _), (2, _), (3, _)]) ?_ ⟨rfl, rfl, rfl, trivial⟩))
 refine WC.seq (WC.seq (WC.region ?_))
 refine WL.q (oq_move rfl) rfl rfl rfl ?_
 refine WL.q (oq_len_rd hr Tryz.underlying31 rfl) rfl rfl rfl ?_
 refine WL.q (oq_gtr rfl rfl) rfl rfl rfl ?_
 refine WL.nil (WE.then_normal (WC.sub (fr' := [(1, _), (2, _), (3, _), (10, _)]) ?_ ⟨rfl, rfl, rfl, rfl, trivial⟩))
 refine WC.cond rfl (fun q1 => ?_) (fun q1 => ?_)
 ·
  try simp only [Z1, Z2, Z3, Z4, Z5, Z6, Z7, Z8, Z9, Z0] at q1
  first | contradiction | (exfalso; omega) | (exfalso; simp_all; done)
 ·
  try simp only [Z1, Z2, Z3, Z4, Z5, Z6, Z7, Z8, Z9, Z0] at q1
  refine WC.skip (WE.then_normal (WC.sub (fr' := [(1, _), (2, _), (3, _)]) ?_ ⟨rfl, rfl, rfl, trivial⟩))
  refine WC.seq (WC.region ?_)
  refine WL.q (oq_move rfl) rfl rfl rfl ?_
  refine WL.q (oq_len_rd hr Tryz.underlying31 rfl) rfl rfl rfl ?_
  refine WL.q (oq_conv Tryz.underlying3 Tryz.underlying122 rfl (by rw [u16_lo, u16_hi]; (first | omega | (simp only [List.length_cons, List.length_nil, List.length_append, List.length_drop, List.length_take]; omega)))) rfl rfl rfl ?_
  refine WL.q (oq_fieldAddr fld166_1 rfl) rfl rfl rfl ?_
  refine WL.store1 #[_, _, _] ty122 rfl rfl (by first | rfl | exact OwS.one one_) (Nat.lt_of_lt_of_le (Nat.lt_succ_self _) (Nat.le_of_ble_eq_true rfl)) rfl rfl ?_
  refine WL.nil (WE.then_normal (WC.sub (fr' := [(1, _), (2, _), (3, _)]) ?_ ⟨rfl, rfl, rfl, trivial⟩))
  refine WC.seq (WC.region ?_)
  refine WL.q (oq_move rfl) rfl rfl rfl ?_
  refine WL.q (oq_fieldAddr fld166_0 rfl) rfl rfl rfl ?_
  refine WL.q (oq_load flat121 rfl (.head _) (List.mem_singleton.2 rfl) rfl) rfl rfl rfl ?_
  refine WL.q (oq_makeI conc121 rfl) rfl rfl rfl ?_
  refine WL.q (oq_fieldAddr fld166_1 rfl) rfl rfl rfl ?_
  refine WL.q (oq_load flat122 rfl (.head _) (List.mem_singleton.2 rfl) rfl) rfl rfl rfl ?_
  refine WL.q (oq_makeI conc122 rfl) rfl rfl rfl ?_
  refine WL.buildL Tryz.underlying120 ty20 rfl rfl (by decide) (by decide) rfl rfl rfl fun v4 A4 ho4 hne4 => ?_
  refine WL.f2 ?_
  refine WL.f1 ?_
  refine WL.callW2 (zzWrite _ k r f Wt hW acc0 G hG v4 A4 [⟨121, .u8, 1, (t.toNat : Int)⟩, ⟨122, .u16, 2, (data.length : Int)⟩] ho4.rd (ok2 (okT _) (by simp [Num.ok, Num.kinds])) (by simp) (by simp; omega)) call30 rfl rfl rfl fun v4_8 Hs4_8 hR4_8 => ?_
  obtain ⟨G2, rfl, rfl, hG2⟩ := hR4_8
  rw [bytesN2] at hG2
  refine WL.to2 ?_
  refine WL.q (oq_assign rfl) rfl rfl rfl ?_
  refine WL.nil (WE.then_normal (WC.sub (fr' := [(1, _), (2, _), (7, _)]) ?_ ⟨rfl, rfl, rfl, trivial⟩))
  refine WC.seq (WC.seq (WC.region ?_))
  refine WL.q (oq_move rfl) rfl rfl rfl ?_
  refine WL.q (oq_ineq Tryz.underlying49 rfl (.inl rfl)) rfl rfl rfl ?_
  refine WL.nil (WE.then_normal (WC.sub (fr' := [(1, _), (2, _), (7, _), (31, _)]) ?_ ⟨rfl, rfl, rfl, rfl, trivial⟩))
  refine WC.cond rfl (fun q5 => ?_) (fun q5 => ?_)
  ·
   try simp only [Z1, Z2, Z3, Z4, Z5, Z6, Z7, Z8, Z9, Z0] at q5
   first | contradiction | (exfalso; omega) | (exfalso; simp_all; done)
  ·
   try simp only [Z1, Z2, Z3, Z4, Z5, Z6, Z7, Z8, Z9, Z0] at q5
   refine WC.skip (WE.then_normal (WC.sub (fr' := [(1, _), (2, _)]) ?_ ⟨rfl, rfl, trivial⟩))
   refine WC.seq (WC.region ?_)
   refine WL.q (oq_move rfl) rfl rfl rfl ?_
   refine WL.q (oq_move rfl) rfl rfl rfl ?_
   refine WL.f3 ?_
   refine WL.f2 ?_
   refine WL.callWE (fun a w hf => ent_inv1 hW.inv rfl rfl hf w) (hW.run _ G2 s Z data hG2 hr (by simp [be_len]; omega) (by simp; omega)) rfl rfl rfl rfl fun v7_2 Hs7_2 hR7_2 => ?_
   obtain ⟨G3, rfl, rfl, hG3⟩ := hR7_2
   refine WL.app2 ?_
   refine WL.q (oq_move rfl) rfl rfl rfl ?_
   refine WL.q (oq_extract rfl rfl) rfl rfl rfl ?_
   refine WL.q (oq_extract rfl rfl) rfl rfl rfl ?_
   refine WL.q (oq_assign rfl) rfl rfl rfl ?_
   refine WL.nil (WE.then_normal (WC.sub (fr' := [(7, _)]) ?_ ⟨rfl, trivial⟩))
   refine WC.seq (WC.region ?_)
   refine WL.q (oq_move rfl) rfl rfl rfl ?_
   refine WL.q (oq_assign rfl) rfl rfl rfl ?_
   refine WL.nil (WE.then_normal (WC.sub (fr' := [(6, _)]) ?_ ⟨rfl, trivial⟩))
   refine WC.ret ?_
   refine WE.f2 ?_
   refine WE.forget ho4.fresh ?_
   refine WE.f2 ?_
   refine WE.lose hb0_0 ?_
   refine WE.endW2 (.inl rfl) (res1 Tryz.results96 rfl) ?_
   exact ⟨_, rfl, rfl, by rw [List.append_assoc] at hG3; exact hG3⟩
theorem encFixed (base : Nat) (k : TypeId) (r : Value) (f : FuncId) (Wt : List UInt8 → Hp → Prop) (hW : Wr base k r f Wt) (acc0 : List UInt8) (G : Hp) (hG : Wt acc0 G) (t : UInt8) (l1 l2 : Value) (s : Value) (Z : Hp) (data : List UInt8) (hr : RdS 1 s Z data.length (bytesV data)) (hdl : data.length ≤ 32767) (hal : acc0.length ≤ 250000) : FnW Tryz.prog 117 [.agg #[.int .u8 (t.toNat : Int), l1, l2], .iface k r, s] base [G, Z] (Then Wt (acc0 ++ (t :: data)) [Z]) := by
 refine FnW.enter (n := 22) Tryz.func117 rfl rfl fun w0 R0 hbase => ?_
 subst hbase
 show WC _ _ _ _ _ _ _ ([G, Z, R0])
 refine WC.sub (fr' := [(0, _), (1, _), (2, _)]) ?_ ⟨rfl, rfl, rfl, trivial⟩
 refine WC.seq (WC.region ?_)
 refine WL.box rfl rfl rfl fun b0_0 hb0_0 => ?_
 refine WL.q (oq_assign rfl) rfl rfl rfl ?_
 refine WL.nil (WE.then_normal (WC.sub (fr' := [(1, _), (2, _), (3, _)]) ?_ ⟨rfl, rfl, rfl, trivial⟩))
 refine WC.seq (WC.region ?_)
 refine WL.q (oq_move rfl) rfl rfl rfl ?_
 refine WL.q (oq_fieldAddr fld166_0 rfl) rfl rfl rfl ?_
 refine WL.q (oq_load flat121 rfl (.head _) (List.mem_singleton.2 rfl) rfl) rfl rfl rfl ?_
 refine WL.q (oq_makeI conc121 rfl) rfl rfl rfl ?_
 refine WL.buildL Tryz.underlying120 ty20 rfl rfl (by decide) (by decide) rfl rfl rfl fun v1 A1 ho1 hne1 => ?_
 refine WL.f2 ?_
 refine WL.f1 ?_
 refine WL.callW2 (zzWrite _ k r f Wt hW acc0 G hG v1 A1 [⟨121, .u8, 1, (t.toNat : Int)⟩] ho1.rd (ok1 (okT _)) (by simp) (by simp; omega)) call30 rfl rfl rfl fun v1_5 Hs1_5 hR1_5 => ?_
 obtain ⟨G2, rfl, rfl, hG2⟩ := hR1_5
 rw [bytesN1] at hG2
 refine WL.to2 ?_
 refine WL.nil (WE.then_normal (WC.sub (fr' := [(1, _), (2, _)]) ?_ ⟨rfl, rfl, trivial⟩))
 refine WC.seq (WC.region ?_)
 refine WL.q (oq_move rfl) rfl rfl rfl ?_
 refine WL.q (oq_move rfl) rfl rfl rfl ?_
 refine WL.f3 ?_
 refine WL.f2 ?_
 refine WL.callWE (fun a w hf => ent_inv1 hW.inv rfl rfl hf w) (hW.run _ G2 s Z data hG2 hr (by simp; omega) (by simp; omega)) rfl rfl rfl rfl fun v2_2 Hs2_2 hR2_2 => ?_
 obtain ⟨G3, rfl, rfl, hG3⟩ := hR2_2
 refine WL.app2 ?_
 refine WL.q (oq_move rfl) rfl rfl rfl ?_
 refine WL.q (oq_extract rfl rfl) rfl rfl rfl ?_
 refine WL.q (oq_extract rfl rfl) rfl rfl rfl ?_
 refine WL.q (oq_assign rfl) rfl rfl rfl ?_
 refine WL.q (oq_assign rfl) rfl rfl rfl ?_
 refine WL.nil (WE.then_normal (WC.sub (fr' := [(8, _)]) ?_ ⟨rfl, trivial⟩))
 refine WC.seq (WC.region ?_)
 refine WL.q (oq_move rfl) rfl rfl rfl ?_
 refine WL.q (oq_assign rfl) rfl rfl rfl ?_
 refine WL.nil (WE.then_normal (WC.sub (fr' := [(6, _)]) ?_ ⟨rfl, trivial⟩))
 refine WC.ret ?_
 refine WE.f2 ?_
 refine WE.forget ho1.fresh ?_
 refine WE.f2 ?_
 refine WE.lose hb0_0 ?_
 refine WE.endW2 (.inl rfl) (res1 Tryz.results117 rfl) ?_
 exact ⟨_, rfl, rfl, by rw [List.append_assoc] at hG3; exact hG3⟩
theorem invBS : Inv1 Tryz.prog 53 "WriteString" 135 := fun x a w => by kernel_rfl
theorem askBS : AskYes Tryz.prog 53 172 := fun x u w => by kernel_rfl
theorem bufWrS (base bb : Nat) (acc : List UInt8) (G : Hp) (data : List UInt8) (hG : BufG base bb acc G) (hl : acc.length + data.length ≤ 400000) (h0 : 0 < acc.length + data.length) :
  FnW Tryz.prog 135 [Pt bb 0, S data] base [G] (fun w Hs => ∃ G', w = .tuple #[I (data.length : Int), .nilIface] ∧ Hs = [G'] ∧ BufG base bb (acc ++ data) G') := by
 obtain ⟨v, lr, A, rfl, hb⟩ := hG
 intro w0 R0 w hbase hw
 refine (bufWriteS base bb lr v A acc data hb (by omega) h0 w0 R0 w hbase (by simpa using hw)).mono ?_
 rintro e w' ⟨u, Hs, he, ⟨v2, A2, rfl, rfl, hb2⟩, hst⟩
 exact ⟨_, [BB bb v2 0 ++ A2], he, ⟨_, rfl, rfl, v2, 0, A2, rfl, hb2⟩, by simpa using hst⟩
theorem encString (base bb : Nat) (acc0 : List UInt8) (G : Hp) (hG : BufG base bb acc0 G) (t : UInt8) (l1 l2 : Value) (data : List UInt8) (hdl : data.length ≤ 32767) (hal : acc0.length ≤ 250000) : FnW Tryz.prog 101 [.agg #[.int .u8 (t.toNat : Int), l1, l2], .iface 53 (Pt bb 0), S data] base [G] (Then (BufG base bb) (acc0 ++ (t :: be 2 data.length ++ data)) []) := by
 refine FnW.enter (n := 55) Tryz.func101 rfl rfl fun w0 R0 hbase => ?_
 subst hbase
 show WC _ _ _ _ _ _ _ ([G, R0])
 refine WC.sub (fr' := [(0, _), (1, _), (2, _)]) ?_ ⟨rfl, rfl, rfl, trivial⟩
 refine WC.seq (WC.region ?_)
 refine WL.box rfl rfl rfl fun b0_0 hb0_0 => ?_
 refine WL.q (oq_assign rfl) rfl rfl rfl ?_
 refine WL.nil (WE.then_normal (WC.sub (fr' := [(1, _), (2, _), (3, _)]) ?_ ⟨rfl, rfl, rfl, trivial⟩))
 refine WC.seq (WC.seq (WC.region ?_))
 refine WL.q (oq_move rfl) rfl rfl rfl ?_
 refine WL.q (oq_len_s Tryz.underlying9 rfl) rfl rfl rfl ?_
 refine WL.q (oq_gtr rfl rfl) rfl rfl rfl ?_
 refine WL.nil (WE.then_normal (WC.sub (fr' := [(1, _), (2, _), (3, _), (12, _)]) ?_ ⟨rfl, rfl, rfl, rfl, trivial⟩))
 refine WC.cond rfl (fun q1 => ?_) (fun q1 => ?_)
 ·
  try simp only [Z1, Z2, Z3, Z4, Z5, Z6, Z7, Z8, Z9, Z0] at q1
  first | contradiction | (exfalso; omega) | (exfalso; simp_all; done)
 ·
  try simp only [Z1, Z2, Z3, Z4, Z5, Z6, Z7, Z8, Z9, Z0] at q1
  refine WC.skip (WE.then_normal (WC.sub (fr' := [(1, _), (2, _), (3, _)]) ?_ ⟨rfl, rfl, rfl, trivial⟩))
  refine WC.seq (WC.region ?_)
  refine WL.q (oq_move rfl) rfl rfl rfl ?_
  refine WL.q (oq_len_s Tryz.underlying9 rfl) rfl rfl rfl ?_
  refine WL.q (oq_conv Tryz.underlying3 Tryz.underlying122 rfl (by rw [u16_lo, u16_hi]; (first | omega | (simp only [List.length_cons, List.length_nil, List.length_append, List.length_drop, List.length_take]; omega)))) rfl rfl rfl ?_
  refine WL.q (oq_fieldAddr fld166_1 rfl) rfl rfl rfl ?_
  refine WL.store1 #[_, _, _] ty122 rfl rfl (by first | rfl | exact OwS.one one_) (Nat.lt_of_lt_of_le (Nat.lt_succ_self _) (Nat.le_of_ble_eq_true rfl)) rfl rfl ?_
  refine WL.nil (WE.then_normal (WC.sub (fr' := [(1, _), (2, _), (3, _)]) ?_ ⟨rfl, rfl, rfl, trivial⟩))
  refine WC.seq (WC.region ?_)
  refine WL.q (oq_move rfl) rfl rfl rfl ?_
  refine WL.q (oq_fieldAddr fld166_0 rfl) rfl rfl rfl ?_
  refine WL.q (oq_load flat121 rfl (.head _) (List.mem_singleton.2 rfl) rfl) rfl rfl rfl ?_
  refine WL.q (oq_makeI conc121 rfl) rfl rfl rfl ?_
  refine WL.q (oq_fieldAddr fld166_1 rfl) rfl rfl rfl ?_
  refine WL.q (oq_load flat122 rfl (.head _) (List.mem_singleton.2 rfl) rfl) rfl rfl rfl ?_
  refine WL.q (oq_makeI conc122 rfl) rfl rfl rfl ?_
  refine WL.buildL Tryz.underlying120 ty20 rfl rfl (by decide) (by decide) rfl rfl rfl fun v4 A4 ho4 hne4 => ?_
  refine WL.f2 ?_
  refine WL.f1 ?_
  refine WL.callW2 (zzWrite _ _ _ _ _ (bufWr _ bb) acc0 G hG v4 A4 [⟨121, .u8, 1, (t.toNat : Int)⟩, ⟨122, .u16, 2, (data.length : Int)⟩] ho4.rd (ok2 (okT _) (by simp [Num.ok, Num.kinds])) (by simp) (by simp; omega)) call30 rfl rfl rfl fun v4_8 Hs4_8 hR4_8 => ?_
  obtain ⟨G2, rfl, rfl, hG2⟩ := hR4_8
  rw [bytesN2] at hG2
  refine WL.to2 ?_
  refine WL.q (oq_assign rfl) rfl rfl rfl ?_
  refine WL.nil (WE.then_normal (WC.sub (fr' := [(1, _), (2, _), (7, _)]) ?_ ⟨rfl, rfl, rfl, trivial⟩))
  refine WC.seq (WC.seq (WC.region ?_))
  refine WL.q (oq_move rfl) rfl rfl rfl ?_
  refine WL.q (oq_ineq Tryz.underlying49 rfl (.inl rfl)) rfl rfl rfl ?_
  refine WL.nil (WE.then_normal (WC.sub (fr' := [(1, _), (2, _), (7, _), (33, _)]) ?_ ⟨rfl, rfl, rfl, rfl, trivial⟩))
  refine WC.cond rfl (fun q5 => ?_) (fun q5 => ?_)
  ·
   try simp only [Z1, Z2, Z3, Z4, Z5, Z6, Z7, Z8, Z9, Z0] at q5
   first | contradiction | (exfalso; omega) | (exfalso; simp_all; done)
  ·
   try simp only [Z1, Z2, Z3, Z4, Z5, Z6, Z7, Z8, Z9, Z0] at q5
   refine WC.skip (WE.then_normal (WC.sub (fr' := [(1, _), (2, _)]) ?_ ⟨rfl, rfl, trivial⟩))
   refine WC.seq (WC.seq (WC.region ?_))
   refine WL.q (oq_move rfl) rfl rfl rfl ?_
   refine WL.q (oq_askYes askBS rfl) rfl rfl rfl ?_
   refine WL.q (oq_move rfl) rfl rfl rfl ?_
   refine WL.q (oq_extract rfl rfl) rfl rfl rfl ?_
   refine WL.q (oq_extract rfl rfl) rfl rfl rfl ?_
   refine WL.q (oq_assign rfl) rfl rfl rfl ?_
   refine WL.q (oq_assign rfl) rfl rfl rfl ?_
   refine WL.nil (WE.then_normal (WC.sub (fr' := [(1, _), (2, _), (8, _), (9, _)]) ?_ ⟨rfl, rfl, rfl, rfl, trivial⟩))
   refine WC.seq (WC.region ?_)
   refine WL.q (oq_move rfl) rfl rfl rfl ?_
   refine WL.nil (WE.then_normal (WC.sub (fr' := [(1, _), (2, _), (8, _), (40, _)]) ?_ ⟨rfl, rfl, rfl, rfl, trivial⟩))
   refine WC.cond rfl (fun q8 => ?_) (fun q8 => ?_)
   ·
    try simp only [Z1, Z2, Z3, Z4, Z5, Z6, Z7, Z8, Z9, Z0] at q8
    refine WC.region ?_
    refine WL.q (oq_move rfl) rfl rfl rfl ?_
    refine WL.q (oq_move rfl) rfl rfl rfl ?_
    refine WL.f1 ?_
    refine WL.callWE (fun a w hf => ent_inv1 invBS rfl rfl hf w) (bufWrS _ bb _ G2 data hG2 (by simp [be_len]; omega) (by simp; omega)) rfl rfl rfl rfl fun v9_2 Hs9_2 hR9_2 => ?_
    obtain ⟨G3, rfl, rfl, hG3⟩ := hR9_2
    refine WL.app1 ?_
    refine WL.q (oq_move rfl) rfl rfl rfl ?_
    refine WL.q (oq_extract rfl rfl) rfl rfl rfl ?_
    refine WL.q (oq_extract rfl rfl) rfl rfl rfl ?_
    refine WL.q (oq_assign rfl) rfl rfl rfl ?_
    refine WL.nil (WE.then_normal (WC.sub (fr' := [(7, _)]) ?_ ⟨rfl, trivial⟩))
    refine WC.seq (WC.region ?_)
    refine WL.q (oq_move rfl) rfl rfl rfl ?_
    refine WL.q (oq_assign rfl) rfl rfl rfl ?_
    refine WL.nil (WE.then_normal (WC.sub (fr' := [(6, _)]) ?_ ⟨rfl, trivial⟩))
    refine WC.ret ?_
    refine WE.f1 ?_
    refine WE.forget ho4.fresh ?_
    refine WE.f1 ?_
    refine WE.lose hb0_0 ?_
    refine WE.endW1 (.inl rfl) (res1 Tryz.results101 rfl) ?_
    exact ⟨_, rfl, rfl, by rw [List.append_assoc] at hG3; exact hG3⟩
   ·
    try simp only [Z1, Z2, Z3, Z4, Z5, Z6, Z7, Z8, Z9, Z0] at q8
    first | contradiction | (exfalso; omega) | (exfalso; simp_all; done)
end EF
end Go.Proofs.YtinkaobaboffcaaGreatDoor
/- The encodings of values. -/
namespace Go.Proofs.YtinkaobaboffcaaGreatDoor
open Go Go.RowKit V EA EB EC ED EE EF
set_option linter.unusedSimpArgs false
set_option linter.unusedVariables false
set_option maxRecDepth 10000
namespace EG
theorem call30 : Callable Tryz.prog 30 := ⟨_, Tryz.func30, rfl, by kernel_rfl⟩
theorem call76 : Callable Tryz.prog 76 := ⟨_, Tryz.func76, rfl, by kernel_rfl⟩
theorem call78 : Callable Tryz.prog 78 := ⟨_, Tryz.func78, rfl, by kernel_rfl⟩
theorem call82 : Callable Tryz.prog 82 := ⟨_, Tryz.func82, rfl, by kernel_rfl⟩
theorem call86 : Callable Tryz.prog 86 := ⟨_, Tryz.func86, rfl, by kernel_rfl⟩
theorem call90 : Callable Tryz.prog 90 := ⟨_, Tryz.func90, rfl, by kernel_rfl⟩
theorem call94 : Callable Tryz.prog 94 := ⟨_, Tryz.func94, rfl, by kernel_rfl⟩
theorem call96 : Callable Tryz.prog 96 := ⟨_, Tryz.func96, rfl, by kernel_rfl⟩
theorem call100 : Callable Tryz.prog 100 := ⟨_, Tryz.func100, rfl, by kernel_rfl⟩
theorem call101 : Callable Tryz.prog 101 := ⟨_, Tryz.func101, rfl, by kernel_rfl⟩
theorem call115 : Callable Tryz.prog 115 := ⟨_, Tryz.func115, rfl, by kernel_rfl⟩
theorem call117 : Callable Tryz.prog 117 := ⟨_, Tryz.func117, rfl, by kernel_rfl⟩
theorem call121 : Callable Tryz.prog 121 := ⟨_, Tryz.func121, rfl, by kernel_rfl⟩
theorem ty5 : Ty Tryz.prog 5 (.int .u8 0) 1 1 := ty_of (by kernel_rfl)
theorem ty20 : Ty Tryz.prog 20 .nilIface 1 16 := ty_of (by kernel_rfl)
theorem ty72 : Ty Tryz.prog 72 (.agg #[(.int .u8 0), (.int .u8 0), (.int .u8 0), (.int .u8 0), (.int .u8 0), (.int .u8 0), (.int .u8 0), (.int .u8 0), (.int .u8 0), (.int .u8 0), (.int .u8 0), (.int .u8 0), (.int .u8 0), (.int .u8 0), (.int .u8 0), (.int .u8 0)]) 16 16 := ty_of (by kernel_rfl)
theorem ty166 : Ty Tryz.prog 166 (.agg #[(.int .u8 0), (.int .u16 0), (.slice none 0 0)]) 3 32 := ty_of (by kernel_rfl)
theorem conc60 : Conc Tryz.prog 60 := ⟨_, Tryz.underlying60, by simp⟩
theorem conc62 : Conc Tryz.prog 62 := ⟨_, Tryz.underlying62, by simp⟩
theorem conc63 : Conc Tryz.prog 63 := ⟨_, Tryz.underlying63, by simp⟩
theorem conc64 : Conc Tryz.prog 64 := ⟨_, Tryz.underlying64, by simp⟩
theorem conc121 : Conc Tryz.prog 121 := ⟨_, Tryz.underlying121, by simp⟩
theorem agg72 : Agg Tryz.prog 72 := agg_arr Tryz.underlying72
theorem agg166 : Agg Tryz.prog 166 := agg_of Tryz.underlying166
theorem str166 : Str Tryz.prog 166 #[(0, 1), (1, 1), (2, 1)] := ⟨_, Tryz.underlying166, fun w => by kernel_rfl⟩
theorem vtInt8Value (x : Int) : Fn0 Tryz.prog 76 [.int .i8 x] (.int .u8 2) := by
 refine Fn0.enter (n := 3) Tryz.func76 rfl rfl fun w0 => ?_
 refine WC.sub (fr' := []) ?_ trivial
 refine WC.seq (WC.region ?_)
 refine WL.q (oq_assign rfl) rfl rfl rfl ?_
 refine WL.nil (WE.then_normal (WC.sub (fr' := []) ?_ trivial))
 refine WC.seq (WC.region ?_)
 refine WL.q (oq_assign rfl) rfl rfl rfl ?_
 refine WL.nil (WE.then_normal (WC.sub (fr' := [(2, _)]) ?_ ⟨rfl, trivial⟩))
 refine WC.ret ?_
 refine WE.end0 (.inl rfl) (res1 Tryz.results76 rfl) ?_
 rfl
theorem vtInt16Value (x : Int) : Fn0 Tryz.prog 82 [.int .i16 x] (.int .u8 3) := by
 refine Fn0.enter (n := 3) Tryz.func82 rfl rfl fun w0 => ?_
 refine WC.sub (fr' := []) ?_ trivial
 refine WC.seq (WC.region ?_)
 refine WL.q (oq_assign rfl) rfl rfl rfl ?_
 refine WL.nil (WE.then_normal (WC.sub (fr' := []) ?_ trivial))
 refine WC.seq (WC.region ?_)
 refine WL.q (oq_assign rfl) rfl rfl rfl ?_
 refine WL.nil (WE.then_normal (WC.sub (fr' := [(2, _)]) ?_ ⟨rfl, trivial⟩))
 refine WC.ret ?_
 refine WE.end0 (.inl rfl) (res1 Tryz.results82 rfl) ?_
 rfl
theorem vtInt32Value (x : Int) : Fn0 Tryz.prog 86 [.int .i32 x] (.int .u8 4) := by
 refine Fn0.enter (n := 3) Tryz.func86 rfl rfl fun w0 => ?_
 refine WC.sub (fr' := []) ?_ trivial
 refine WC.seq (WC.region ?_)
 refine WL.q (oq_assign rfl) rfl rfl rfl ?_
 refine WL.nil (WE.then_normal (WC.sub (fr' := []) ?_ trivial))
 refine WC.seq (WC.region ?_)
 refine WL.q (oq_assign rfl) rfl rfl rfl ?_
 refine WL.nil (WE.then_normal (WC.sub (fr' := [(2, _)]) ?_ ⟨rfl, trivial⟩))
 refine WC.ret ?_
 refine WE.end0 (.inl rfl) (res1 Tryz.results86 rfl) ?_
 rfl
theorem vtInt64Value (x : Int) : Fn0 Tryz.prog 90 [.int .i64 x] (.int .u8 5) := by
 refine Fn0.enter (n := 3) Tryz.func90 rfl rfl fun w0 => ?_
 refine WC.sub (fr' := []) ?_ trivial
 refine WC.seq (WC.region ?_)
 refine WL.q (oq_assign rfl) rfl rfl rfl ?_
 refine WL.nil (WE.then_normal (WC.sub (fr' := []) ?_ trivial))
 refine WC.seq (WC.region ?_)
 refine WL.q (oq_assign rfl) rfl rfl rfl ?_
 refine WL.nil (WE.then_normal (WC.sub (fr' := [(2, _)]) ?_ ⟨rfl, trivial⟩))
 refine WC.ret ?_
 refine WE.end0 (.inl rfl) (res1 Tryz.results90 rfl) ?_
 rfl
theorem encInt8Value (base : Nat) (k : TypeId) (r : Value) (f : FuncId) (Wt : List UInt8 → Hp → Prop) (hW : Wr base k r f Wt) (acc0 : List UInt8) (G : Hp) (hG : Wt acc0 G) (x : Int) (hal : acc0.length ≤ 290000) : FnW Tryz.prog 75 [.int .i8 x, .iface k r] base [G] (Then Wt (acc0 ++ (2 :: be 1 x)) []) := by
 refine FnW.enter (n := 14) Tryz.func75 rfl rfl fun w0 R0 hbase => ?_
 subst hbase
 show WC _ _ _ _ _ _ _ ([G, R0])
 refine WC.sub (fr' := [(0, _), (1, _)]) ?_ ⟨rfl, rfl, trivial⟩
 refine WC.seq (WC.region ?_)
 refine WL.q (oq_assign rfl) rfl rfl rfl ?_
 refine WL.nil (WE.then_normal (WC.sub (fr' := [(0, _), (1, _)]) ?_ ⟨rfl, rfl, trivial⟩))
 refine WC.seq (WC.region ?_)
 refine WL.q (oq_move rfl) rfl rfl rfl ?_
 refine WL.qc (oq_call (vtInt8Value x) call76 rfl) rfl rfl rfl ?_
 refine WL.q (oq_build #[_, _, _] str166 ty166 rfl rfl) rfl rfl rfl ?_
 refine WL.alloc ty166 rfl rfl fun b1_3 hb1_3 => ?_
 refine WL.storeS #[_, _, _] ty166 rfl rfl rfl rfl (Nat.le_of_ble_eq_true rfl) rfl rfl ?_
 refine WL.nil (WE.then_normal (WC.sub (fr' := [(0, _), (1, _), (5, _)]) ?_ ⟨rfl, rfl, rfl, trivial⟩))
 refine WC.seq (WC.region ?_)
 refine WL.q (oq_loadS [_, _, _] agg166 ty166 rfl (.head _) (List.mem_singleton.2 rfl) rfl rfl) rfl rfl rfl ?_
 refine WL.q (oq_move rfl) rfl rfl rfl ?_
 refine WL.q (oq_move rfl) rfl rfl rfl ?_
 refine WL.q (oq_makeI conc60 rfl) rfl rfl rfl ?_
 refine WL.f1 ?_
 refine WL.callW1 (encScalar _ k r f Wt hW acc0 G hG 2 (.int .u16 0) (.slice none 0 0) ⟨60, .i8, 1, x⟩ (by simp [Num.ok, Num.kinds]) hal) call78 rfl rfl rfl fun v2_4 Hs2_4 hR2_4 => ?_
 obtain ⟨G2, rfl, rfl, hG2⟩ := hR2_4
 refine WL.to1 ?_
 refine WL.q (oq_assign rfl) rfl rfl rfl ?_
 refine WL.nil (WE.then_normal (WC.sub (fr' := [(4, _)]) ?_ ⟨rfl, trivial⟩))
 refine WC.ret ?_
 refine WE.f1 ?_
 refine WE.lose hb1_3 ?_
 refine WE.endW1 (.inl rfl) (res1 Tryz.results75 rfl) ?_
 exact ⟨_, rfl, rfl, hG2⟩
theorem encInt16Value (base : Nat) (k : TypeId) (r : Value) (f : FuncId) (Wt : List UInt8 → Hp → Prop) (hW : Wr base k r f Wt) (acc0 : List UInt8) (G : Hp) (hG : Wt acc0 G) (x : Int) (hal : acc0.length ≤ 290000) : FnW Tryz.prog 81 [.int .i16 x, .iface k r] base [G] (Then Wt (acc0 ++ (3 :: be 2 x)) []) := by
 refine FnW.enter (n := 14) Tryz.func81 rfl rfl fun w0 R0 hbase => ?_
 subst hbase
 show WC _ _ _ _ _ _ _ ([G, R0])
 refine WC.sub (fr' := [(0, _), (1, _)]) ?_ ⟨rfl, rfl, trivial⟩
 refine WC.seq (WC.region ?_)
 refine WL.q (oq_assign rfl) rfl rfl rfl ?_
 refine WL.nil (WE.then_normal (WC.sub (fr' := [(0, _), (1, _)]) ?_ ⟨rfl, rfl, trivial⟩))
 refine WC.seq (WC.region ?_)
 refine WL.q (oq_move rfl) rfl rfl rfl ?_
 refine WL.qc (oq_call (vtInt16Value x) call82 rfl) rfl rfl rfl ?_
 refine WL.q (oq_build #[_, _, _] str166 ty166 rfl rfl) rfl rfl rfl ?_
 refine WL.alloc ty166 rfl rfl fun b1_3 hb1_3 => ?_
 refine WL.storeS #[_, _, _] ty166 rfl rfl rfl rfl (Nat.le_of_ble_eq_true rfl) rfl rfl ?_
 refine WL.nil (WE.then_normal (WC.sub (fr' := [(0, _), (1, _), (5, _)]) ?_ ⟨rfl, rfl, rfl, trivial⟩))
 refine WC.seq (WC.region ?_)
 refine WL.q (oq_loadS [_, _, _] agg166 ty166 rfl (.head _) (List.mem_singleton.2 rfl) rfl rfl) rfl rfl rfl ?_
 refine WL.q (oq_move rfl) rfl rfl rfl ?_
 refine WL.q (oq_move rfl) rfl rfl rfl ?_
 refine WL.q (oq_makeI conc62 rfl) rfl rfl rfl ?_
 refine WL.f1 ?_
 refine WL.callW1 (encScalar _ k r f Wt hW acc0 G hG 3 (.int .u16 0) (.slice none 0 0) ⟨62, .i16, 2, x⟩ (by simp [Num.ok, Num.kinds]) hal) call78 rfl rfl rfl fun v2_4 Hs2_4 hR2_4 => ?_
 obtain ⟨G2, rfl, rfl, hG2⟩ := hR2_4
 refine WL.to1 ?_
 refine WL.q (oq_assign rfl) rfl rfl rfl ?_
 refine WL.nil (WE.then_normal (WC.sub (fr' := [(4, _)]) ?_ ⟨rfl, trivial⟩))
 refine WC.ret ?_
 refine WE.f1 ?_
 refine WE.lose hb1_3 ?_
 refine WE.endW1 (.inl rfl) (res1 Tryz.results81 rfl) ?_
 exact ⟨_, rfl, rfl, hG2⟩
theorem encInt32Value (base : Nat) (k : TypeId) (r : Value) (f : FuncId) (Wt : List UInt8 → Hp → Prop) (hW : Wr base k r f Wt) (acc0 : List UInt8) (G : Hp) (hG : Wt acc0 G) (x : Int) (hal : acc0.length ≤ 290000) : FnW Tryz.prog 85 [.int .i32 x, .iface k r] base [G] (Then Wt (acc0 ++ (4 :: be 4 x)) []) := by
 refine FnW.enter (n := 14) Tryz.func85 rfl rfl fun w0 R0 hbase => ?_
 subst hbase
 show WC _ _ _ _ _ _ _ ([G, R0])
 refine WC.sub (fr' := [(0, _), (1, _)]) ?_ ⟨rfl, rfl, trivial⟩
 refine WC.seq (WC.region ?_)
 refine WL.q (oq_assign rfl) rfl rfl rfl ?_
 refine WL.nil (WE.then_normal (WC.sub (fr' := [(0, _), (1, _)]) ?_ ⟨rfl, rfl, trivial⟩))
 refine WC.seq (WC.region ?_)
 refine WL.q (oq_move rfl) rfl rfl rfl ?_
 refine WL.qc (oq_call (vtInt32Value x) call86 rfl) rfl rfl rfl ?_
 refine WL.q (oq_build #[_, _, _] str166 ty166 rfl rfl) rfl rfl rfl ?_
 refine WL.alloc ty166 rfl rfl fun b1_3 hb1_3 => ?_
 refine WL.storeS #[_, _, _] ty166 rfl rfl rfl rfl (Nat.le_of_ble_eq_true rfl) rfl rfl ?_
 refine WL.nil (WE.then_normal (WC.sub (fr' := [(0, _), (1, _), (5, _)]) ?_ ⟨rfl, rfl, rfl, trivial⟩))
 refine WC.seq (WC.region ?_)
 refine WL.q (oq_loadS [_, _, _] agg166 ty166 rfl (.head _) (List.mem_singleton.2 rfl) rfl rfl) rfl rfl rfl ?_
 refine WL.q (oq_move rfl) rfl rfl rfl ?_
 refine WL.q (oq_move rfl) rfl rfl rfl ?_
 refine WL.q (oq_makeI conc63 rfl) rfl rfl rfl ?_
 refine WL.f1 ?_
 refine WL.callW1 (encScalar _ k r f Wt hW acc0 G hG 4 (.int .u16 0) (.slice none 0 0) ⟨63, .i32, 4, x⟩ (by simp [Num.ok, Num.kinds]) hal) call78 rfl rfl rfl fun v2_4 Hs2_4 hR2_4 => ?_
 obtain ⟨G2, rfl, rfl, hG2⟩ := hR2_4
 refine WL.to1 ?_
 refine WL.q (oq_assign rfl) rfl rfl rfl ?_
 refine WL.nil (WE.then_normal (WC.sub (fr' := [(4, _)]) ?_ ⟨rfl, trivial⟩))
 refine WC.ret ?_
 refine WE.f1 ?_
 refine WE.lose hb1_3 ?_
 refine WE.endW1 (.inl rfl) (res1 Tryz.results85 rfl) ?_
 exact ⟨_, rfl, rfl, hG2⟩
theorem encInt64Value (base : Nat) (k : TypeId) (r : Value) (f : FuncId) (Wt : List UInt8 → Hp → Prop) (hW : Wr base k r f Wt) (acc0 : List UInt8) (G : Hp) (hG : Wt acc0 G) (x : Int) (hal : acc0.length ≤ 290000) : FnW Tryz.prog 89 [.int .i64 x, .iface k r] base [G] (Then Wt (acc0 ++ (5 :: be 8 x)) []) := by
 refine FnW.enter (n := 14) Tryz.func89 rfl rfl fun w0 R0 hbase => ?_
 subst hbase
 show WC _ _ _ _ _ _ _ ([G, R0])
 refine WC.sub (fr' := [(0, _), (1, _)]) ?_ ⟨rfl, rfl, trivial⟩
 refine WC.seq (WC.region ?_)
 refine WL.q (oq_assign rfl) rfl rfl rfl ?_
 refine WL.nil (WE.then_normal (WC.sub (fr' := [(0, _), (1, _)]) ?_ ⟨rfl, rfl, trivial⟩))
 refine WC.seq (WC.region ?_)
 refine WL.q (oq_move rfl) rfl rfl rfl ?_
 refine WL.qc (oq_call (vtInt64Value x) call90 rfl) rfl rfl rfl ?_
 refine WL.q (oq_build #[_, _, _] str166 ty166 rfl rfl) rfl rfl rfl ?_
 refine WL.alloc ty166 rfl rfl fun b1_3 hb1_3 => ?_
 refine WL.storeS #[_, _, _] ty166 rfl rfl rfl rfl (Nat.le_of_ble_eq_true rfl) rfl rfl ?_
 refine WL.nil (WE.then_normal (WC.sub (fr' := [(0, _), (1, _), (5, _)]) ?_ ⟨rfl, rfl, rfl, trivial⟩))
 refine WC.seq (WC.region ?_)
 refine WL.q (oq_loadS [_, _, _] agg166 ty166 rfl (.head _) (List.mem_singleton.2 rfl) rfl rfl) rfl rfl rfl ?_
 refine WL.q (oq_move rfl) rfl rfl rfl ?_
 refine WL.q (oq_move rfl) rfl rfl rfl ?_
 refine WL.q (oq_makeI conc64 rfl) rfl rfl rfl ?_
 refine WL.f1 ?_
 refine WL.callW1 (encScalar _ k r f Wt hW acc0 G hG 5 (.int .u16 0) (.slice none 0 0) ⟨64, .i64, 8, x⟩ (by simp [Num.ok, Num.kinds]) hal) call78 rfl rfl rfl fun v2_4 Hs2_4 hR2_4 => ?_
 obtain ⟨G2, rfl, rfl, hG2⟩ := hR2_4
 refine WL.to1 ?_
 refine WL.q (oq_assign rfl) rfl rfl rfl ?_
 refine WL.nil (WE.then_normal (WC.sub (fr' := [(4, _)]) ?_ ⟨rfl, trivial⟩))
 refine WC.ret ?_
 refine WE.f1 ?_
 refine WE.lose hb1_3 ?_
 refine WE.endW1 (.inl rfl) (res1 Tryz.results89 rfl) ?_
 exact ⟨_, rfl, rfl, hG2⟩
theorem vtBytesValue (s : Value) : Fn0 Tryz.prog 94 [s] (.int .u8 6) := by
 refine Fn0.enter (n := 3) Tryz.func94 rfl rfl fun w0 => ?_
 refine WC.sub (fr' := []) ?_ trivial
 refine WC.seq (WC.region ?_)
 refine WL.q (oq_assign rfl) rfl rfl rfl ?_
 refine WL.nil (WE.then_normal (WC.sub (fr' := []) ?_ trivial))
 refine WC.seq (WC.region ?_)
 refine WL.q (oq_assign rfl) rfl rfl rfl ?_
 refine WL.nil (WE.then_normal (WC.sub (fr' := [(2, _)]) ?_ ⟨rfl, trivial⟩))
 refine WC.ret ?_
 refine WE.end0 (.inl rfl) (res1 Tryz.results94 rfl) ?_
 rfl
theorem encBytesValue (base : Nat) (k : TypeId) (r : Value) (f : FuncId) (Wt : List UInt8 → Hp → Prop) (hW : Wr base k r f Wt) (acc0 : List UInt8) (G : Hp) (hG : Wt acc0 G) (s : Value) (Z : Hp) (data : List UInt8) (hr : RdS 1 s Z data.length (bytesV data)) (hdl : data.length ≤ 32767) (hal : acc0.length ≤ 250000) : FnW Tryz.prog 93 [s, .iface k r] base [G, Z] (Then Wt (acc0 ++ (6 :: be 2 data.length ++ data)) [Z]) := by
 refine FnW.enter (n := 13) Tryz.func93 rfl rfl fun w0 R0 hbase => ?_
 subst hbase
 show WC _ _ _ _ _ _ _ ([G, Z, R0])
 refine WC.sub (fr' := [(0, _), (1, _)]) ?_ ⟨rfl, rfl, trivial⟩
 refine WC.seq (WC.region ?_)
 refine WL.q (oq_assign rfl) rfl rfl rfl ?_
 refine WL.nil (WE.then_normal (WC.sub (fr' := [(0, _), (1, _)]) ?_ ⟨rfl, rfl, trivial⟩))
 refine WC.seq (WC.region ?_)
 refine WL.q (oq_move rfl) rfl rfl rfl ?_
 refine WL.qc (oq_call (vtBytesValue s) call94 rfl) rfl rfl rfl ?_
 refine WL.q (oq_build #[_, _, _] str166 ty166 rfl rfl) rfl rfl rfl ?_
 refine WL.alloc ty166 rfl rfl fun b1_3 hb1_3 => ?_
 refine WL.storeS #[_, _, _] ty166 rfl rfl rfl rfl (Nat.le_of_ble_eq_true rfl) rfl rfl ?_
 refine WL.nil (WE.then_normal (WC.sub (fr' := [(0, _), (1, _), (5, _)]) ?_ ⟨rfl, rfl, rfl, trivial⟩))
 refine WC.seq (WC.region ?_)
 refine WL.q (oq_loadS [_, _, _] agg166 ty166 rfl (.head _) (List.mem_singleton.2 rfl) rfl rfl) rfl rfl rfl ?_
 refine WL.q (oq_move rfl) rfl rfl rfl ?_
 refine WL.q (oq_move rfl) rfl rfl rfl ?_
 refine WL.f2 ?_
 refine WL.f2 ?_
 refine WL.callW2 (encBytes _ k r f Wt hW acc0 G hG 6 (.int .u16 0) (.slice none 0 0) s Z data hr hdl hal) call96 rfl rfl rfl fun v2_3 Hs2_3 hR2_3 => ?_
 obtain ⟨G2, rfl, rfl, hG2⟩ := hR2_3
 refine WL.to2 ?_
 refine WL.q (oq_assign rfl) rfl rfl rfl ?_
 refine WL.nil (WE.then_normal (WC.sub (fr' := [(4, _)]) ?_ ⟨rfl, trivial⟩))
 refine WC.ret ?_
 refine WE.f2 ?_
 refine WE.lose hb1_3 ?_
 refine WE.endW2 (.inl rfl) (res1 Tryz.results93 rfl) ?_
 exact ⟨_, rfl, rfl, hG2⟩
theorem vtStringValue (s : Value) : Fn0 Tryz.prog 100 [s] (.int .u8 7) := by
 refine Fn0.enter (n := 3) Tryz.func100 rfl rfl fun w0 => ?_
 refine WC.sub (fr' := []) ?_ trivial
 refine WC.seq (WC.region ?_)
 refine WL.q (oq_assign rfl) rfl rfl rfl ?_
 refine WL.nil (WE.then_normal (WC.sub (fr' := []) ?_ trivial))
 refine WC.seq (WC.region ?_)
 refine WL.q (oq_assign rfl) rfl rfl rfl ?_
 refine WL.nil (WE.then_normal (WC.sub (fr' := [(2, _)]) ?_ ⟨rfl, trivial⟩))
 refine WC.ret ?_
 refine WE.end0 (.inl rfl) (res1 Tryz.results100 rfl) ?_
 rfl
theorem encStringValue (base bb : Nat) (acc0 : List UInt8) (G : Hp) (hG : BufG base bb acc0 G) (data : List UInt8) (hdl : data.length ≤ 32767) (hal : acc0.length ≤ 250000) : FnW Tryz.prog 99 [S data, .iface 53 (Pt bb 0)] base [G] (Then (BufG base bb) (acc0 ++ (7 :: be 2 data.length ++ data)) []) := by
 refine FnW.enter (n := 13) Tryz.func99 rfl rfl fun w0 R0 hbase => ?_
 subst hbase
 show WC _ _ _ _ _ _ _ ([G, R0])
 refine WC.sub (fr' := [(0, _), (1, _)]) ?_ ⟨rfl, rfl, trivial⟩
 refine WC.seq (WC.region ?_)
 refine WL.q (oq_assign rfl) rfl rfl rfl ?_
 refine WL.nil (WE.then_normal (WC.sub (fr' := [(0, _), (1, _)]) ?_ ⟨rfl, rfl, trivial⟩))
 refine WC.seq (WC.region ?_)
 refine WL.q (oq_move rfl) rfl rfl rfl ?_
 refine WL.qc (oq_call (vtStringValue (S data)) call100 rfl) rfl rfl rfl ?_
 refine WL.q (oq_build #[_, _, _] str166 ty166 rfl rfl) rfl rfl rfl ?_
 refine WL.alloc ty166 rfl rfl fun b1_3 hb1_3 => ?_
 refine WL.storeS #[_, _, _] ty166 rfl rfl rfl rfl (Nat.le_of_ble_eq_true rfl) rfl rfl ?_
 refine WL.nil (WE.then_normal (WC.sub (fr' := [(0, _), (1, _), (5, _)]) ?_ ⟨rfl, rfl, rfl, trivial⟩))
 refine WC.seq (WC.region ?_)
 refine WL.q (oq_loadS [_, _, _] agg166 ty166 rfl (.head _) (List.mem_singleton.2 rfl) rfl rfl) rfl rfl rfl ?_
 refine WL.q (oq_move rfl) rfl rfl rfl ?_
 refine WL.q (oq_move rfl) rfl rfl rfl ?_
 refine WL.f1 ?_
 refine WL.callW1 (encString _ bb acc0 G hG 7 (.int .u16 0) (.slice none 0 0) data hdl hal) call101 rfl rfl rfl fun v2_3 Hs2_3 hR2_3 => ?_
 obtain ⟨G2, rfl, rfl, hG2⟩ := hR2_3
 refine WL.to1 ?_
 refine WL.q (oq_assign rfl) rfl rfl rfl ?_
 refine WL.nil (WE.then_normal (WC.sub (fr' := [(4, _)]) ?_ ⟨rfl, trivial⟩))
 refine WC.ret ?_
 refine WE.f1 ?_
 refine WE.lose hb1_3 ?_
 refine WE.endW1 (.inl rfl) (res1 Tryz.results99 rfl) ?_
 exact ⟨_, rfl, rfl, hG2⟩
theorem vtBoolValue (b : Bool) : Fn0 Tryz.prog 121 [.bool b] (.int .u8 ((if b then 0 else 1 : Nat) : Int)) := by
 refine Fn0.enter (n := 4) Tryz.func121 rfl rfl fun w0 => ?_
 refine WC.sub (fr' := [(0, _)]) ?_ ⟨rfl, trivial⟩
 refine WC.seq (WC.region ?_)
 refine WL.q (oq_assign rfl) rfl rfl rfl ?_
 refine WL.nil (WE.then_normal (WC.sub (fr' := [(0, _)]) ?_ ⟨rfl, trivial⟩))
 refine WC.seq (WC.seq (WC.region ?_))
 refine WL.q (oq_move rfl) rfl rfl rfl ?_
 refine WL.nil (WE.then_normal (WC.sub (fr' := [(3, _)]) ?_ ⟨rfl, trivial⟩))
 refine WC.cond rfl (fun q1 => ?_) (fun q1 => ?_)
 ·
  try simp only [Z1, Z2, Z3, Z4, Z5, Z6, Z7, Z8, Z9, Z0] at q1
  refine WC.seq (WC.region ?_)
  refine WL.q (oq_assign rfl) rfl rfl rfl ?_
  refine WL.nil (WE.then_normal (WC.sub (fr' := [(2, _)]) ?_ ⟨rfl, trivial⟩))
  refine WC.ret (WE.then_ret ?_)
  refine WE.end0 (.inl rfl) (res1 Tryz.results121 rfl) ?_
  rw [q1]; rfl
 ·
  try simp only [Z1, Z2, Z3, Z4, Z5, Z6, Z7, Z8, Z9, Z0] at q1
  refine WC.skip (WE.then_normal (WC.sub (fr' := []) ?_ trivial))
  refine WC.seq (WC.region ?_)
  refine WL.q (oq_assign rfl) rfl rfl rfl ?_
  refine WL.nil (WE.then_normal (WC.sub (fr' := [(2, _)]) ?_ ⟨rfl, trivial⟩))
  refine WC.ret ?_
  refine WE.end0 (.inl rfl) (res1 Tryz.results121 rfl) ?_
  rw [q1]; rfl
theorem encBoolValue (base : Nat) (k : TypeId) (r : Value) (f : FuncId) (Wt : List UInt8 → Hp → Prop) (hW : Wr base k r f Wt) (acc0 : List UInt8) (G : Hp) (hG : Wt acc0 G) (b : Bool) (hal : acc0.length ≤ 290000) : FnW Tryz.prog 120 [.bool b, .iface k r] base [G] (Then Wt (acc0 ++ [(if b then 0 else 1 : UInt8)]) []) := by
 refine FnW.enter (n := 11) Tryz.func120 rfl rfl fun w0 R0 hbase => ?_
 subst hbase
 show WC _ _ _ _ _ _ _ ([G, R0])
 refine WC.sub (fr' := [(0, _), (1, _)]) ?_ ⟨rfl, rfl, trivial⟩
 refine WC.seq (WC.region ?_)
 refine WL.q (oq_assign rfl) rfl rfl rfl ?_
 refine WL.nil (WE.then_normal (WC.sub (fr' := [(0, _), (1, _)]) ?_ ⟨rfl, rfl, trivial⟩))
 refine WC.seq (WC.region ?_)
 refine WL.q (oq_move rfl) rfl rfl rfl ?_
 refine WL.q (oq_move rfl) rfl rfl rfl ?_
 refine WL.qc (oq_call (vtBoolValue b) call121 rfl) rfl rfl rfl ?_
 refine WL.q (oq_makeI conc121 rfl) rfl rfl rfl ?_
 refine WL.buildL Tryz.underlying120 ty20 rfl rfl (by decide) (by decide) rfl rfl rfl fun v1 A1 ho1 hne1 => ?_
 refine WL.f1 ?_
 refine WL.f1 ?_
 refine WL.callW2 (zzWrite _ k r f Wt hW acc0 G hG v1 A1 [⟨121, .u8, 1, ((if b then 0 else 1 : Nat) : Int)⟩] ho1.rd (ok1 (okT _)) (by simp) (by simp; omega)) call30 rfl rfl rfl fun v1_5 Hs1_5 hR1_5 => ?_
 obtain ⟨G2, rfl, rfl, hG2⟩ := hR1_5
 have e1 : bytesN [⟨121, .u8, 1, ((if b then 0 else 1 : Nat) : Int)⟩] = [(if b then 0 else 1 : UInt8)] := by cases b <;> decide
 rw [e1] at hG2
 refine WL.to2 ?_
 refine WL.q (oq_assign rfl) rfl rfl rfl ?_
 refine WL.nil (WE.then_normal (WC.sub (fr' := [(4, _)]) ?_ ⟨rfl, trivial⟩))
 refine WC.ret ?_
 refine WE.forget ho1.fresh ?_
 refine WE.endW1 (.inl rfl) (res1 Tryz.results120 rfl) ?_
 exact ⟨_, rfl, rfl, hG2⟩
theorem vtUUIDValue (l : List UInt8) (hl : l.length = 16) : Fn0 Tryz.prog 115 [.agg (bytesV l).toArray] (.int .u8 9) := by
 refine Fn0.enter (n := 3) Tryz.func115 rfl rfl fun w0 => ?_
 refine WC.sub (fr' := [(0, _)]) ?_ ⟨rfl, trivial⟩
 refine WC.seq (WC.region ?_)
 refine WL.box rfl rfl rfl fun b0_0 hb0_0 => ?_
 refine WL.q (oq_assign rfl) rfl rfl rfl ?_
 refine WL.nil (WE.then_normal (WC.sub (fr' := []) ?_ trivial))
 refine WC.seq (WC.region ?_)
 refine WL.q (oq_assign rfl) rfl rfl rfl ?_
 refine WL.nil (WE.then_normal (WC.sub (fr' := [(2, _)]) ?_ ⟨rfl, trivial⟩))
 refine WC.ret ?_
 refine WE.lose hb0_0 ?_
 refine WE.end0 (.inl rfl) (res1 Tryz.results115 rfl) ?_
 rfl
theorem encUUIDValue (base : Nat) (k : TypeId) (r : Value) (f : FuncId) (Wt : List UInt8 → Hp → Prop) (hW : Wr base k r f Wt) (acc0 : List UInt8) (G : Hp) (hG : Wt acc0 G) (l : List UInt8) (hl : l.length = 16) (hal : acc0.length ≤ 250000) : FnW Tryz.prog 114 [.agg (bytesV l).toArray, .iface k r] base [G] (Then Wt (acc0 ++ (9 :: l)) []) := by
 refine FnW.enter (n := 13) Tryz.func114 rfl rfl fun w0 R0 hbase => ?_
 subst hbase
 show WC _ _ _ _ _ _ _ ([G, R0])
 refine WC.sub (fr' := [(0, _), (1, _)]) ?_ ⟨rfl, rfl, trivial⟩
 refine WC.seq (WC.region ?_)
 refine WL.box rfl rfl rfl fun ub hub => ?_
 refine WL.asB (l) rfl ?_
 refine WL.q (oq_assign rfl) rfl rfl rfl ?_
 refine WL.nil (WE.then_normal (WC.sub (fr' := [(1, _), (2, _)]) ?_ ⟨rfl, rfl, trivial⟩))
 refine WC.seq (WC.region ?_)
 refine WL.q (oq_loadArr agg72 ty72 (hl) rfl (.head _)) rfl rfl rfl ?_
 refine WL.qc (oq_call (vtUUIDValue l hl) call115 rfl) rfl rfl rfl ?_
 refine WL.q (oq_build #[_, _, _] str166 ty166 rfl rfl) rfl rfl rfl ?_
 refine WL.alloc ty166 rfl rfl fun b1_3 hb1_3 => ?_
 refine WL.storeS #[_, _, _] ty166 rfl rfl rfl rfl (Nat.le_of_ble_eq_true rfl) rfl rfl ?_
 refine WL.nil (WE.then_normal (WC.sub (fr' := [(1, _), (2, _), (5, _)]) ?_ ⟨rfl, rfl, rfl, trivial⟩))
 refine WC.seq ?_
 have hrd : RdS 1 (Sl ub 0 16 16) (Bf ub 72 l) l.length (bytesV l) := by
  have h1 := Sl.rd (b := ub) (off := 0) (n := 16) (c := 16) (e := 72) (l := l) (by omega) (by omega)
  rw [List.drop_zero, List.take_of_length_le (by omega)] at h1; rw [hl]; exact h1
 refine WC.tailM (pl := []) (ql := [_, _, _]) (tl := [_, _]) [] [0, 1, 2] 3 [4] (by kernel_rfl) (by kernel_rfl) (by kernel_rfl) (by kernel_rfl) (by kernel_rfl) (by kernel_rfl) (by decide) rfl rfl rfl (by decide) (by repeat (first | with_reducible exact QOk.body | with_reducible apply QOk.then | with_reducible apply QOk.block | exact QOk.body | apply QOk.then | apply QOk.block)) ?_
 refine WM.nil ?_
 refine WY.q (oq_loadS [_, _, _] agg166 ty166 rfl (.head _) (List.mem_singleton.2 rfl) rfl rfl) rfl rfl rfl ?_
 refine WY.q (oq_move rfl) rfl rfl rfl ?_
 refine WY.q (oq_sliceArr Tryz.underlying72 ty5 rfl rfl rfl (by omega) (by omega)) rfl rfl rfl ?_
 refine WY.nil ?_
 refine WL.f1 ?_
 refine WL.f2 ?_
 refine WL.callW2 (encFixed _ k r f Wt hW acc0 G hG 9 (.int .u16 0) (.slice none 0 0) _ (Bf ub 72 l) l hrd (by omega) hal) call117 rfl rfl rfl fun v2_3 Hs2_3 hR2_3 => ?_
 obtain ⟨G2, rfl, rfl, hG2⟩ := hR2_3
 refine WL.to2 ?_
 refine WL.q (oq_assign rfl) rfl rfl rfl ?_
 refine WL.nil (WE.then_normal (WC.sub (fr' := [(4, _)]) ?_ ⟨rfl, trivial⟩))
 refine WC.ret ?_
 refine WE.f1 ?_
 refine WE.lose hub ?_
 refine WE.f1 ?_
 refine WE.lose hb1_3 ?_
 refine WE.endW1 (.inl rfl) (res1 Tryz.results114 rfl) ?_
 exact ⟨_, rfl, rfl, hG2⟩
end EG
end Go.Proofs.YtinkaobaboffcaaGreatDoor
/- Moments. -/
namespace Go.Proofs.YtinkaobaboffcaaGreatDoor
open Go Go.RowKit V EA EB EC ED EE EF EG
set_option linter.unusedSimpArgs false
set_option linter.unusedVariables false
set_option maxRecDepth 10000
namespace EH
theorem call31 : Callable Tryz.prog 31 := ⟨_, Tryz.func31, rfl, by kernel_rfl⟩
theorem call78 : Callable Tryz.prog 78 := ⟨_, Tryz.func78, rfl, by kernel_rfl⟩
theorem call105 : Callable Tryz.prog 105 := ⟨_, Tryz.func105, rfl, by kernel_rfl⟩
theorem call106 : Callable Tryz.prog 106 := ⟨_, Tryz.func106, rfl, by kernel_rfl⟩
theorem call107 : Callable Tryz.prog 107 := ⟨_, Tryz.func107, rfl, by kernel_rfl⟩
theorem call108 : Callable Tryz.prog 108 := ⟨_, Tryz.func108, rfl, by kernel_rfl⟩
theorem call109 : Callable Tryz.prog 109 := ⟨_, Tryz.func109, rfl, by kernel_rfl⟩
theorem call110 : Callable Tryz.prog 110 := ⟨_, Tryz.func110, rfl, by kernel_rfl⟩
theorem flat2 : Flat Tryz.prog 2 := ⟨_, Tryz.underlying2, by simp⟩
theorem flat21 : Flat Tryz.prog 21 := ⟨_, Tryz.underlying21, by simp⟩
theorem ty2 : Ty Tryz.prog 2 (.int .i64 0) 1 8 := ty_of (by kernel_rfl)
theorem ty21 : Ty Tryz.prog 21 (.int .i32 0) 1 4 := ty_of (by kernel_rfl)
theorem ty68 : Ty Tryz.prog 68 (.agg #[(.int .i64 0), (.int .i32 0), (S []), (.int .i64 0)]) 4 40 := ty_of (by kernel_rfl)
theorem ty69 : Ty Tryz.prog 69 (.agg #[(.int .i64 0), (.int .i32 0), (S []), (.int .i64 0)]) 4 40 := ty_of (by kernel_rfl)
theorem ty166 : Ty Tryz.prog 166 (.agg #[(.int .u8 0), (.int .u16 0), (.slice none 0 0)]) 3 32 := ty_of (by kernel_rfl)
theorem conc2 : Conc Tryz.prog 2 := ⟨_, Tryz.underlying2, by simp⟩
theorem agg68 : Agg Tryz.prog 68 := agg_of Tryz.underlying68
theorem agg69 : Agg Tryz.prog 69 := agg_of Tryz.underlying69
theorem agg166 : Agg Tryz.prog 166 := agg_of Tryz.underlying166
theorem str69 : Str Tryz.prog 69 #[(0, 1), (1, 1), (2, 1), (3, 1)] := ⟨_, Tryz.underlying69, fun w => by kernel_rfl⟩
theorem str166 : Str Tryz.prog 166 #[(0, 1), (1, 1), (2, 1)] := ⟨_, Tryz.underlying166, fun w => by kernel_rfl⟩
theorem fld69_0 : Fld Tryz.prog 69 0 0 2 := fld_of Tryz.underlying69 rfl rfl rfl ty2 (by decide)
theorem fld69_1 : Fld Tryz.prog 69 1 1 21 := fld_of Tryz.underlying69 rfl rfl rfl ty21 (by decide)
abbrev tmV (s n : Int) : Value := .agg #[I s, .int .i32 n, S [85, 84, 67], I 0]
theorem tm_eq {s s' n n' : Int} (h : s = s') (h2 : n = n') : tmV s n = tmV s' n' := by rw [h, h2]
abbrev msV (ms : Int) : Value := tmV (ms / 1000 + 62135596800) (ms % 1000 * 1000000)
theorem tmod_b (x m : Int) (h : 0 < m) : x.tmod m = x - m * x.tdiv m := by rw [Int.tmod_def]
theorem sec (s n : Int) : Fn0 Tryz.prog 110 [tmV s n] (I s) := by
 refine Fn0.enter (n := 5) Tryz.func110 rfl rfl fun w0 => ?_
 refine WC.sub (fr' := [(0, _)]) ?_ ⟨rfl, trivial⟩
 refine WC.seq (WC.region ?_)
 refine WL.box rfl rfl rfl fun b0_0 hb0_0 => ?_
 refine WL.q (oq_assign rfl) rfl rfl rfl ?_
 refine WL.nil (WE.then_normal (WC.sub (fr' := [(1, _)]) ?_ ⟨rfl, trivial⟩))
 refine WC.seq (WC.region ?_)
 refine WL.q (oq_fieldAddr fld69_0 rfl) rfl rfl rfl ?_
 refine WL.q (oq_load flat2 rfl (.head _) (List.mem_singleton.2 rfl) rfl) rfl rfl rfl ?_
 refine WL.q (oq_assign rfl) rfl rfl rfl ?_
 refine WL.nil (WE.then_normal (WC.sub (fr' := [(2, _)]) ?_ ⟨rfl, trivial⟩))
 refine WC.ret ?_
 refine WE.lose hb0_0 ?_
 refine WE.end0 (.inl rfl) (res1 Tryz.results110 rfl) ?_
 rfl
theorem nsec (s n : Int) : Fn0 Tryz.prog 109 [tmV s n] (.int .i32 n) := by
 refine Fn0.enter (n := 5) Tryz.func109 rfl rfl fun w0 => ?_
 refine WC.sub (fr' := [(0, _)]) ?_ ⟨rfl, trivial⟩
 refine WC.seq (WC.region ?_)
 refine WL.box rfl rfl rfl fun b0_0 hb0_0 => ?_
 refine WL.q (oq_assign rfl) rfl rfl rfl ?_
 refine WL.nil (WE.then_normal (WC.sub (fr' := [(1, _)]) ?_ ⟨rfl, trivial⟩))
 refine WC.seq (WC.region ?_)
 refine WL.q (oq_fieldAddr fld69_1 rfl) rfl rfl rfl ?_
 refine WL.q (oq_load flat21 rfl (.head _) (List.mem_singleton.2 rfl) rfl) rfl rfl rfl ?_
 refine WL.q (oq_assign rfl) rfl rfl rfl ?_
 refine WL.nil (WE.then_normal (WC.sub (fr' := [(2, _)]) ?_ ⟨rfl, trivial⟩))
 refine WC.ret ?_
 refine WE.lose hb0_0 ?_
 refine WE.end0 (.inl rfl) (res1 Tryz.results109 rfl) ?_
 rfl
theorem unix (s n : Int) (h1 : -1000000000000 ≤ s) (h2 : s ≤ 1000000000000) (h3 : -9223372036854775808 ≤ n) (h4 : n ≤ 9223372036854775807) : Fn0 Tryz.prog 31 [I s, I n] (tmV (s + n / 1000000000 + 62135596800) (n % 1000000000)) := by
 refine Fn0.enter (n := 32) Tryz.func31 rfl rfl fun w0 => ?_
 refine WC.sub (fr' := [(0, _), (1, _)]) ?_ ⟨rfl, rfl, trivial⟩
 refine WC.seq (WC.region ?_)
 refine WL.alloc ty69 rfl rfl fun b0_0 hb0_0 => ?_
 refine WL.nil (WE.then_normal (WC.sub (fr' := [(0, _), (1, _), (4, _)]) ?_ ⟨rfl, rfl, rfl, trivial⟩))
 refine WC.seq (WC.seq (WC.region ?_))
 refine WL.q (oq_move rfl) rfl rfl rfl ?_
 refine WL.q (oq_lss rfl rfl) rfl rfl rfl ?_
 refine WL.q (oq_move rfl) rfl rfl rfl ?_
 refine WL.split 8 rfl (fun s1_2 => ?_) (fun s1_2 => ?_)
 ·
  try simp only [Z1, Z2, Z3, Z4, Z5, Z6, Z7, Z8, Z9, Z0] at s1_2
  refine WL.skip rfl rfl rfl ?_
  refine WL.skip rfl rfl rfl ?_
  refine WL.q (oq_pick_t rfl rfl) rfl rfl rfl ?_
  refine WL.nil (WE.then_normal (WC.sub (fr' := [(0, _), (1, _), (4, _), (11, _)]) ?_ ⟨rfl, rfl, rfl, rfl, trivial⟩))
  refine WC.cond_t rfl ?_
  refine WC.seq (WC.region ?_)
  refine WL.q (oq_move rfl) rfl rfl rfl ?_
  refine WL.q (oq_tquo rfl rfl (by omega) (by rw [i64_lo, i64_hi]; omega)) rfl rfl rfl ?_
  refine WL.q (oq_assign rfl) rfl rfl rfl ?_
  refine WL.nil (WE.then_normal (WC.sub (fr' := [(0, _), (1, _), (4, _), (5, _)]) ?_ ⟨rfl, rfl, rfl, rfl, trivial⟩))
  refine WC.seq ?_
  have hk := tdiv_b n 1000000000 (by decide)
  generalize n.tdiv 1000000000 = k at *
  refine WC.region ?_
  refine WL.q (oq_move rfl) rfl rfl rfl ?_
  refine WL.q (oq_move rfl) rfl rfl rfl ?_
  refine WL.q (oq_add rfl rfl (by rw [i64_lo, i64_hi]; (first | omega | (simp only [List.length_cons, List.length_nil, List.length_append, List.length_drop, List.length_take]; omega)))) rfl rfl rfl ?_
  refine WL.q (oq_assign rfl) rfl rfl rfl ?_
  refine WL.nil (WE.then_normal (WC.sub (fr' := [(0, _), (1, _), (4, _), (5, _)]) ?_ ⟨rfl, rfl, rfl, rfl, trivial⟩))
  refine WC.seq (WC.region ?_)
  refine WL.q (oq_move rfl) rfl rfl rfl ?_
  refine WL.q (oq_move rfl) rfl rfl rfl ?_
  refine WL.q (oq_mul rfl rfl (by rw [i64_lo, i64_hi]; (first | omega | (simp only [List.length_cons, List.length_nil, List.length_append, List.length_drop, List.length_take]; omega)))) rfl rfl rfl ?_
  refine WL.q (oq_sub rfl rfl (by rw [i64_lo, i64_hi]; (first | omega | (simp only [List.length_cons, List.length_nil, List.length_append, List.length_drop, List.length_take]; omega)))) rfl rfl rfl ?_
  refine WL.q (oq_assign rfl) rfl rfl rfl ?_
  refine WL.nil (WE.then_normal (WC.sub (fr' := [(0, _), (1, _), (4, _)]) ?_ ⟨rfl, rfl, rfl, trivial⟩))
  refine WC.seq (WC.region ?_)
  refine WL.q (oq_move rfl) rfl rfl rfl ?_
  refine WL.q (oq_lss rfl rfl) rfl rfl rfl ?_
  refine WL.nil (WE.then_normal (WC.sub (fr' := [(0, _), (1, _), (4, _), (22, _)]) ?_ ⟨rfl, rfl, rfl, rfl, trivial⟩))
  refine WC.cond rfl (fun q5 => ?_) (fun q5 => ?_)
  ·
   try simp only [Z1, Z2, Z3, Z4, Z5, Z6, Z7, Z8, Z9, Z0] at q5
   refine WC.seq (WC.region ?_)
   refine WL.q (oq_move rfl) rfl rfl rfl ?_
   refine WL.q (oq_add rfl rfl (by rw [i64_lo, i64_hi]; (first | omega | (simp only [List.length_cons, List.length_nil, List.length_append, List.length_drop, List.length_take]; omega)))) rfl rfl rfl ?_
   refine WL.q (oq_assign rfl) rfl rfl rfl ?_
   refine WL.nil (WE.then_normal (WC.sub (fr' := [(0, _), (1, _), (4, _)]) ?_ ⟨rfl, rfl, rfl, trivial⟩))
   refine WC.region ?_
   refine WL.q (oq_move rfl) rfl rfl rfl ?_
   refine WL.q (oq_sub rfl rfl (by rw [i64_lo, i64_hi]; (first | omega | (simp only [List.length_cons, List.length_nil, List.length_append, List.length_drop, List.length_take]; omega)))) rfl rfl rfl ?_
   refine WL.q (oq_assign rfl) rfl rfl rfl ?_
   refine WL.nil (WE.then_normal (WC.sub (fr' := [(0, _), (1, _), (4, _)]) ?_ ⟨rfl, rfl, rfl, trivial⟩))
   refine WC.seq (WC.region ?_)
   refine WL.q (oq_move rfl) rfl rfl rfl ?_
   refine WL.q (oq_add rfl rfl (by rw [i64_lo, i64_hi]; (first | omega | (simp only [List.length_cons, List.length_nil, List.length_append, List.length_drop, List.length_take]; omega)))) rfl rfl rfl ?_
   refine WL.q (oq_move rfl) rfl rfl rfl ?_
   refine WL.q (oq_conv Tryz.underlying2 Tryz.underlying21 rfl (by rw [i32_lo, i32_hi]; (first | omega | (simp only [List.length_cons, List.length_nil, List.length_append, List.length_drop, List.length_take]; omega)))) rfl rfl rfl ?_
   refine WL.q (oq_build #[_, _, _, _] str69 ty69 rfl rfl) rfl rfl rfl ?_
   refine WL.storeS #[_, _, _, _] ty69 rfl rfl rfl rfl (Nat.le_of_ble_eq_true rfl) rfl rfl ?_
   refine WL.nil (WE.then_normal (WC.sub (fr' := [(4, _)]) ?_ ⟨rfl, trivial⟩))
   refine WC.ret ?_
   refine WE.endD0 (.inl rfl) (rs1 Tryz.results31 (rv_cellS [_, _, _, _] agg69 ty69 rfl (.head _) (List.mem_singleton.2 rfl) rfl rfl)) (dr_lose hb0_0 dr_refl) ?_
   first | (exfalso; omega) | exact tm_eq (by omega) (by omega)
  ·
   try simp only [Z1, Z2, Z3, Z4, Z5, Z6, Z7, Z8, Z9, Z0] at q5
   refine WC.skip (WE.then_normal (WC.sub (fr' := [(0, _), (1, _), (4, _)]) ?_ ⟨rfl, rfl, rfl, trivial⟩))
   refine WC.seq (WC.region ?_)
   refine WL.q (oq_move rfl) rfl rfl rfl ?_
   refine WL.q (oq_add rfl rfl (by rw [i64_lo, i64_hi]; (first | omega | (simp only [List.length_cons, List.length_nil, List.length_append, List.length_drop, List.length_take]; omega)))) rfl rfl rfl ?_
   refine WL.q (oq_move rfl) rfl rfl rfl ?_
   refine WL.q (oq_conv Tryz.underlying2 Tryz.underlying21 rfl (by rw [i32_lo, i32_hi]; (first | omega | (simp only [List.length_cons, List.length_nil, List.length_append, List.length_drop, List.length_take]; omega)))) rfl rfl rfl ?_
   refine WL.q (oq_build #[_, _, _, _] str69 ty69 rfl rfl) rfl rfl rfl ?_
   refine WL.storeS #[_, _, _, _] ty69 rfl rfl rfl rfl (Nat.le_of_ble_eq_true rfl) rfl rfl ?_
   refine WL.nil (WE.then_normal (WC.sub (fr' := [(4, _)]) ?_ ⟨rfl, trivial⟩))
   refine WC.ret ?_
   refine WE.endD0 (.inl rfl) (rs1 Tryz.results31 (rv_cellS [_, _, _, _] agg69 ty69 rfl (.head _) (List.mem_singleton.2 rfl) rfl rfl)) (dr_lose hb0_0 dr_refl) ?_
   first | (exfalso; omega) | exact tm_eq (by omega) (by omega)
 ·
  try simp only [Z1, Z2, Z3, Z4, Z5, Z6, Z7, Z8, Z9, Z0] at s1_2
  refine WL.q (oq_move rfl) rfl rfl rfl ?_
  refine WL.q (oq_geq rfl rfl) rfl rfl rfl ?_
  refine WL.q (oq_pick_f rfl rfl) rfl rfl rfl ?_
  refine WL.nil (WE.then_normal (WC.sub (fr' := [(0, _), (1, _), (4, _), (11, _)]) ?_ ⟨rfl, rfl, rfl, rfl, trivial⟩))
  refine WC.cond rfl (fun q1 => ?_) (fun q1 => ?_)
  ·
   try simp only [Z1, Z2, Z3, Z4, Z5, Z6, Z7, Z8, Z9, Z0] at q1
   refine WC.seq (WC.region ?_)
   refine WL.q (oq_move rfl) rfl rfl rfl ?_
   refine WL.q (oq_tquo rfl rfl (by omega) (by rw [i64_lo, i64_hi]; omega)) rfl rfl rfl ?_
   refine WL.q (oq_assign rfl) rfl rfl rfl ?_
   refine WL.nil (WE.then_normal (WC.sub (fr' := [(0, _), (1, _), (4, _), (5, _)]) ?_ ⟨rfl, rfl, rfl, rfl, trivial⟩))
   refine WC.seq ?_
   have hk := tdiv_b n 1000000000 (by decide)
   generalize n.tdiv 1000000000 = k at *
   refine WC.region ?_
   refine WL.q (oq_move rfl) rfl rfl rfl ?_
   refine WL.q (oq_move rfl) rfl rfl rfl ?_
   refine WL.q (oq_add rfl rfl (by rw [i64_lo, i64_hi]; (first | omega | (simp only [List.length_cons, List.length_nil, List.length_append, List.length_drop, List.length_take]; omega)))) rfl rfl rfl ?_
   refine WL.q (oq_assign rfl) rfl rfl rfl ?_
   refine WL.nil (WE.then_normal (WC.sub (fr' := [(0, _), (1, _), (4, _), (5, _)]) ?_ ⟨rfl, rfl, rfl, rfl, trivial⟩))
   refine WC.seq (WC.region ?_)
   refine WL.q (oq_move rfl) rfl rfl rfl ?_
   refine WL.q (oq_move rfl) rfl rfl rfl ?_
   refine WL.q (oq_mul rfl rfl (by rw [i64_lo, i64_hi]; (first | omega | (simp only [List.length_cons, List.length_nil, List.length_append, List.length_drop, List.length_take]; omega)))) rfl rfl rfl ?_
   refine WL.q (oq_sub rfl rfl (by rw [i64_lo, i64_hi]; (first | omega | (simp only [List.length_cons, List.length_nil, List.length_append, List.length_drop, List.length_take]; omega)))) rfl rfl rfl ?_
   refine WL.q (oq_assign rfl) rfl rfl rfl ?_
   refine WL.nil (WE.then_normal (WC.sub (fr' := [(0, _), (1, _), (4, _)]) ?_ ⟨rfl, rfl, rfl, trivial⟩))
   refine WC.seq (WC.region ?_)
   refine WL.q (oq_move rfl) rfl rfl rfl ?_
   refine WL.q (oq_lss rfl rfl) rfl rfl rfl ?_
   refine WL.nil (WE.then_normal (WC.sub (fr' := [(0, _), (1, _), (4, _), (22, _)]) ?_ ⟨rfl, rfl, rfl, rfl, trivial⟩))
   refine WC.cond rfl (fun q5 => ?_) (fun q5 => ?_)
   ·
    try simp only [Z1, Z2, Z3, Z4, Z5, Z6, Z7, Z8, Z9, Z0] at q5
    refine WC.seq (WC.region ?_)
    refine WL.q (oq_move rfl) rfl rfl rfl ?_
    refine WL.q (oq_add rfl rfl (by rw [i64_lo, i64_hi]; (first | omega | (simp only [List.length_cons, List.length_nil, List.length_append, List.length_drop, List.length_take]; omega)))) rfl rfl rfl ?_
    refine WL.q (oq_assign rfl) rfl rfl rfl ?_
    refine WL.nil (WE.then_normal (WC.sub (fr' := [(0, _), (1, _), (4, _)]) ?_ ⟨rfl, rfl, rfl, trivial⟩))
    refine WC.region ?_
    refine WL.q (oq_move rfl) rfl rfl rfl ?_
    refine WL.q (oq_sub rfl rfl (by rw [i64_lo, i64_hi]; (first | omega | (simp only [List.length_cons, List.length_nil, List.length_append, List.length_drop, List.length_take]; omega)))) rfl rfl rfl ?_
    refine WL.q (oq_assign rfl) rfl rfl rfl ?_
    refine WL.nil (WE.then_normal (WC.sub (fr' := [(0, _), (1, _), (4, _)]) ?_ ⟨rfl, rfl, rfl, trivial⟩))
    refine WC.seq (WC.region ?_)
    refine WL.q (oq_move rfl) rfl rfl rfl ?_
    refine WL.q (oq_add rfl rfl (by rw [i64_lo, i64_hi]; (first | omega | (simp only [List.length_cons, List.length_nil, List.length_append, List.length_drop, List.length_take]; omega)))) rfl rfl rfl ?_
    refine WL.q (oq_move rfl) rfl rfl rfl ?_
    refine WL.q (oq_conv Tryz.underlying2 Tryz.underlying21 rfl (by rw [i32_lo, i32_hi]; (first | omega | (simp only [List.length_cons, List.length_nil, List.length_append, List.length_drop, List.length_take]; omega)))) rfl rfl rfl ?_
    refine WL.q (oq_build #[_, _, _, _] str69 ty69 rfl rfl) rfl rfl rfl ?_
    refine WL.storeS #[_, _, _, _] ty69 rfl rfl rfl rfl (Nat.le_of_ble_eq_true rfl) rfl rfl ?_
    refine WL.nil (WE.then_normal (WC.sub (fr' := [(4, _)]) ?_ ⟨rfl, trivial⟩))
    refine WC.ret ?_
    refine WE.endD0 (.inl rfl) (rs1 Tryz.results31 (rv_cellS [_, _, _, _] agg69 ty69 rfl (.head _) (List.mem_singleton.2 rfl) rfl rfl)) (dr_lose hb0_0 dr_refl) ?_
    first | (exfalso; omega) | exact tm_eq (by omega) (by omega)
   ·
    try simp only [Z1, Z2, Z3, Z4, Z5, Z6, Z7, Z8, Z9, Z0] at q5
    refine WC.skip (WE.then_normal (WC.sub (fr' := [(0, _), (1, _), (4, _)]) ?_ ⟨rfl, rfl, rfl, trivial⟩))
    refine WC.seq (WC.region ?_)
    refine WL.q (oq_move rfl) rfl rfl rfl ?_
    refine WL.q (oq_add rfl rfl (by rw [i64_lo, i64_hi]; (first | omega | (simp only [List.length_cons, List.length_nil, List.length_append, List.length_drop, List.length_take]; omega)))) rfl rfl rfl ?_
    refine WL.q (oq_move rfl) rfl rfl rfl ?_
    refine WL.q (oq_conv Tryz.underlying2 Tryz.underlying21 rfl (by rw [i32_lo, i32_hi]; (first | omega | (simp only [List.length_cons, List.length_nil, List.length_append, List.length_drop, List.length_take]; omega)))) rfl rfl rfl ?_
    refine WL.q (oq_build #[_, _, _, _] str69 ty69 rfl rfl) rfl rfl rfl ?_
    refine WL.storeS #[_, _, _, _] ty69 rfl rfl rfl rfl (Nat.le_of_ble_eq_true rfl) rfl rfl ?_
    refine WL.nil (WE.then_normal (WC.sub (fr' := [(4, _)]) ?_ ⟨rfl, trivial⟩))
    refine WC.ret ?_
    refine WE.endD0 (.inl rfl) (rs1 Tryz.results31 (rv_cellS [_, _, _, _] agg69 ty69 rfl (.head _) (List.mem_singleton.2 rfl) rfl rfl)) (dr_lose hb0_0 dr_refl) ?_
    first | (exfalso; omega) | exact tm_eq (by omega) (by omega)
  ·
   try simp only [Z1, Z2, Z3, Z4, Z5, Z6, Z7, Z8, Z9, Z0] at q1
   refine WC.skip (WE.then_normal (WC.sub (fr' := [(0, _), (1, _), (4, _)]) ?_ ⟨rfl, rfl, rfl, trivial⟩))
   refine WC.seq (WC.region ?_)
   refine WL.q (oq_move rfl) rfl rfl rfl ?_
   refine WL.q (oq_add rfl rfl (by rw [i64_lo, i64_hi]; (first | omega | (simp only [List.length_cons, List.length_nil, List.length_append, List.length_drop, List.length_take]; omega)))) rfl rfl rfl ?_
   refine WL.q (oq_move rfl) rfl rfl rfl ?_
   refine WL.q (oq_conv Tryz.underlying2 Tryz.underlying21 rfl (by rw [i32_lo, i32_hi]; (first | omega | (simp only [List.length_cons, List.length_nil, List.length_append, List.length_drop, List.length_take]; omega)))) rfl rfl rfl ?_
   refine WL.q (oq_build #[_, _, _, _] str69 ty69 rfl rfl) rfl rfl rfl ?_
   refine WL.storeS #[_, _, _, _] ty69 rfl rfl rfl rfl (Nat.le_of_ble_eq_true rfl) rfl rfl ?_
   refine WL.nil (WE.then_normal (WC.sub (fr' := [(4, _)]) ?_ ⟨rfl, trivial⟩))
   refine WC.ret ?_
   refine WE.endD0 (.inl rfl) (rs1 Tryz.results31 (rv_cellS [_, _, _, _] agg69 ty69 rfl (.head _) (List.mem_singleton.2 rfl) rfl rfl)) (dr_lose hb0_0 dr_refl) ?_
   first | (exfalso; omega) | exact tm_eq (by omega) (by omega)
theorem unixMilli (ms : Int) (h1 : -9200000000000 ≤ ms) (h2 : ms ≤ 9200000000000) : Fn0 Tryz.prog 19 [I ms] (msV ms) := by
 have hk := tdiv_b ms 1000 (by decide)
 have hm := tmod_b ms 1000 (by decide)
 refine Fn0.enter (n := 9) Tryz.func19 rfl rfl fun w0 => ?_
 refine WC.sub (fr' := [(0, _)]) ?_ ⟨rfl, trivial⟩
 refine WC.seq (WC.region ?_)
 refine WL.alloc ty69 rfl rfl fun b0_0 hb0_0 => ?_
 refine WL.nil (WE.then_normal (WC.sub (fr' := [(0, _), (2, _)]) ?_ ⟨rfl, rfl, trivial⟩))
 refine WC.seq (WC.region ?_)
 refine WL.q (oq_move rfl) rfl rfl rfl ?_
 refine WL.q (oq_tquo rfl rfl (by omega) (by rw [i64_lo, i64_hi]; omega)) rfl rfl rfl ?_
 refine WL.q (oq_move rfl) rfl rfl rfl ?_
 refine WL.q (oq_trem rfl rfl (by omega)) rfl rfl rfl ?_
 refine WL.q (oq_mul rfl rfl (by rw [i64_lo, i64_hi]; (first | omega | (simp only [List.length_cons, List.length_nil, List.length_append, List.length_drop, List.length_take]; omega)))) rfl rfl rfl ?_
 refine WL.qc (oq_call (unix (ms.tdiv 1000) (ms.tmod 1000 * 1000000) (by omega) (by omega) (by omega) (by omega)) call31 rfl) rfl rfl rfl ?_
 refine WL.storeS #[_, _, _, _] ty69 rfl rfl rfl rfl (Nat.le_of_ble_eq_true rfl) rfl rfl ?_
 refine WL.nil (WE.then_normal (WC.sub (fr' := [(2, _)]) ?_ ⟨rfl, trivial⟩))
 refine WC.ret ?_
 refine WE.endD0 (.inl rfl) (rs1 Tryz.results19 (rv_cellS [_, _, _, _] agg69 ty69 rfl (.head _) (List.mem_singleton.2 rfl) rfl rfl)) (dr_lose hb0_0 dr_refl) ?_
 exact tm_eq (by omega) (by omega)
theorem unixSec (s n : Int) (h : 0 ≤ s ∧ s ≤ 1000000000000) : Fn0 Tryz.prog 108 [tmV s n] (I (s + -62135596800)) := by
 refine Fn0.enter (n := 6) Tryz.func108 rfl rfl fun w0 => ?_
 refine WC.sub (fr' := [(0, _)]) ?_ ⟨rfl, trivial⟩
 refine WC.seq (WC.region ?_)
 refine WL.box rfl rfl rfl fun b0_0 hb0_0 => ?_
 refine WL.q (oq_assign rfl) rfl rfl rfl ?_
 refine WL.nil (WE.then_normal (WC.sub (fr' := [(1, _)]) ?_ ⟨rfl, trivial⟩))
 refine WC.seq (WC.region ?_)
 refine WL.q (oq_loadS [_, _, _, _] agg69 ty69 rfl (.head _) (List.mem_singleton.2 rfl) rfl rfl) rfl rfl rfl ?_
 refine WL.qc (oq_call (sec _ _) call110 rfl) rfl rfl rfl ?_
 refine WL.q (oq_add rfl rfl (by rw [i64_lo, i64_hi]; (first | omega | (simp only [List.length_cons, List.length_nil, List.length_append, List.length_drop, List.length_take]; omega)))) rfl rfl rfl ?_
 refine WL.q (oq_assign rfl) rfl rfl rfl ?_
 refine WL.nil (WE.then_normal (WC.sub (fr' := [(2, _)]) ?_ ⟨rfl, trivial⟩))
 refine WC.ret ?_
 refine WE.lose hb0_0 ?_
 refine WE.end0 (.inl rfl) (res1 Tryz.results108 rfl) ?_
 rfl
theorem unixNano (ms : Int) (h1 : -9200000000000 ≤ ms) (h2 : ms ≤ 9200000000000) : Fn0 Tryz.prog 107 [msV ms] (I (ms * 1000000)) := by
 refine Fn0.enter (n := 10) Tryz.func107 rfl rfl fun w0 => ?_
 refine WC.sub (fr' := [(0, _)]) ?_ ⟨rfl, trivial⟩
 refine WC.seq (WC.region ?_)
 refine WL.box rfl rfl rfl fun b0_0 hb0_0 => ?_
 refine WL.q (oq_assign rfl) rfl rfl rfl ?_
 refine WL.nil (WE.then_normal (WC.sub (fr' := [(1, _)]) ?_ ⟨rfl, trivial⟩))
 refine WC.seq (WC.quiet (by kernel_rfl) (by kernel_rfl) ?_)
 refine WQ.q (oq_loadS [_, _, _, _] agg69 ty69 rfl (.head _) (List.mem_singleton.2 rfl) rfl rfl) rfl rfl rfl ?_
 refine WQ.qc (oq_call (unixSec _ _ (by omega)) call108 rfl) rfl rfl rfl ?_
 refine WQ.q (oq_mul rfl rfl (by rw [i64_lo, i64_hi]; (first | omega | (simp only [List.length_cons, List.length_nil, List.length_append, List.length_drop, List.length_take]; omega)))) rfl rfl rfl ?_
 refine WQ.q (oq_loadS [_, _, _, _] agg69 ty69 rfl (.head _) (List.mem_singleton.2 rfl) rfl rfl) rfl rfl rfl ?_
 refine WQ.qc (oq_call (nsec _ _) call109 rfl) rfl rfl rfl ?_
 refine WQ.q (oq_conv Tryz.underlying21 Tryz.underlying2 rfl (by rw [i64_lo, i64_hi]; (first | omega | (simp only [List.length_cons, List.length_nil, List.length_append, List.length_drop, List.length_take]; omega)))) rfl rfl rfl ?_
 refine WQ.q (oq_add rfl rfl (by rw [i64_lo, i64_hi]; (first | omega | (simp only [List.length_cons, List.length_nil, List.length_append, List.length_drop, List.length_take]; omega)))) rfl rfl rfl ?_
 refine WQ.q (oq_assign rfl) rfl rfl rfl ?_
 refine WQ.nil (WE.then_normal (WC.sub (fr' := [(2, _)]) ?_ ⟨rfl, trivial⟩))
 refine WC.ret ?_
 refine WE.lose hb0_0 ?_
 refine WE.end0 (.inl rfl) (res1 Tryz.results107 rfl) ?_
 congr 1; omega
theorem epochMilli (ms : Int) (h1 : -9200000000000 ≤ ms) (h2 : ms ≤ 9200000000000) : Fn0 Tryz.prog 106 [msV ms] (I ms) := by
 refine Fn0.enter (n := 10) Tryz.func106 rfl rfl fun w0 => ?_
 refine WC.sub (fr' := [(0, _)]) ?_ ⟨rfl, trivial⟩
 refine WC.seq (WC.region ?_)
 refine WL.box rfl rfl rfl fun b0_0 hb0_0 => ?_
 refine WL.q (oq_assign rfl) rfl rfl rfl ?_
 refine WL.nil (WE.then_normal (WC.sub (fr' := [(1, _)]) ?_ ⟨rfl, trivial⟩))
 refine WC.seq (WC.region ?_)
 refine WL.q (oq_loadS [_, _, _, _] agg68 ty68 rfl (.head _) (List.mem_singleton.2 rfl) rfl rfl) rfl rfl rfl ?_
 refine WL.qc (oq_call (unixNano ms h1 h2) call107 rfl) rfl rfl rfl ?_
 refine WL.q (oq_assign rfl) rfl rfl rfl ?_
 refine WL.nil (WE.then_normal (WC.sub (fr' := [(3, _)]) ?_ ⟨rfl, trivial⟩))
 refine WC.seq (WC.region ?_)
 refine WL.q (oq_move rfl) rfl rfl rfl ?_
 refine WL.q (oq_tquo rfl rfl (by omega) (by rw [i64_lo, i64_hi]; omega)) rfl rfl rfl ?_
 refine WL.q (oq_assign rfl) rfl rfl rfl ?_
 refine WL.nil (WE.then_normal (WC.sub (fr' := [(4, _)]) ?_ ⟨rfl, trivial⟩))
 refine WC.seq (WC.region ?_)
 refine WL.q (oq_move rfl) rfl rfl rfl ?_
 refine WL.q (oq_assign rfl) rfl rfl rfl ?_
 refine WL.nil (WE.then_normal (WC.sub (fr' := [(2, _)]) ?_ ⟨rfl, trivial⟩))
 refine WC.ret ?_
 refine WE.lose hb0_0 ?_
 refine WE.end0 (.inl rfl) (res1 Tryz.results106 rfl) ?_
 rw [Int.mul_tdiv_cancel _ (by decide)]
theorem vtTimestampValue (s n : Int) : Fn0 Tryz.prog 105 [tmV s n] (.int .u8 8) := by
 refine Fn0.enter (n := 3) Tryz.func105 rfl rfl fun w0 => ?_
 refine WC.sub (fr' := [(0, _)]) ?_ ⟨rfl, trivial⟩
 refine WC.seq (WC.region ?_)
 refine WL.box rfl rfl rfl fun b0_0 hb0_0 => ?_
 refine WL.q (oq_assign rfl) rfl rfl rfl ?_
 refine WL.nil (WE.then_normal (WC.sub (fr' := []) ?_ trivial))
 refine WC.seq (WC.region ?_)
 refine WL.q (oq_assign rfl) rfl rfl rfl ?_
 refine WL.nil (WE.then_normal (WC.sub (fr' := [(2, _)]) ?_ ⟨rfl, trivial⟩))
 refine WC.ret ?_
 refine WE.lose hb0_0 ?_
 refine WE.end0 (.inl rfl) (res1 Tryz.results105 rfl) ?_
 rfl
theorem encTimestampValue (base : Nat) (k : TypeId) (r : Value) (f : FuncId) (Wt : List UInt8 → Hp → Prop) (hW : Wr base k r f Wt) (acc0 : List UInt8) (G : Hp) (hG : Wt acc0 G) (ms : Int) (h1 : -9200000000000 ≤ ms) (h2 : ms ≤ 9200000000000) (hal : acc0.length ≤ 290000) : FnW Tryz.prog 104 [msV ms, .iface k r] base [G] (Then Wt (acc0 ++ (8 :: be 8 ms)) []) := by
 refine FnW.enter (n := 17) Tryz.func104 rfl rfl fun w0 R0 hbase => ?_
 subst hbase
 show WC _ _ _ _ _ _ _ ([G, R0])
 refine WC.sub (fr' := [(0, _), (1, _)]) ?_ ⟨rfl, rfl, trivial⟩
 refine WC.seq (WC.region ?_)
 refine WL.box rfl rfl rfl fun b0_0 hb0_0 => ?_
 refine WL.q (oq_assign rfl) rfl rfl rfl ?_
 refine WL.nil (WE.then_normal (WC.sub (fr' := [(1, _), (2, _)]) ?_ ⟨rfl, rfl, trivial⟩))
 refine WC.seq (WC.region ?_)
 refine WL.q (oq_loadS [_, _, _, _] agg68 ty68 rfl (.head _) (List.mem_singleton.2 rfl) rfl rfl) rfl rfl rfl ?_
 refine WL.qc (oq_call (vtTimestampValue _ _) call105 rfl) rfl rfl rfl ?_
 refine WL.q (oq_build #[_, _, _] str166 ty166 rfl rfl) rfl rfl rfl ?_
 refine WL.alloc ty166 rfl rfl fun b1_3 hb1_3 => ?_
 refine WL.storeS #[_, _, _] ty166 rfl rfl rfl rfl (Nat.le_of_ble_eq_true rfl) rfl rfl ?_
 refine WL.nil (WE.then_normal (WC.sub (fr' := [(1, _), (2, _), (5, _)]) ?_ ⟨rfl, rfl, rfl, trivial⟩))
 refine WC.seq (WC.region ?_)
 refine WL.q (oq_loadS [_, _, _, _] agg68 ty68 rfl (.tail _ (.head _)) (List.mem_singleton.2 rfl) rfl rfl) rfl rfl rfl ?_
 refine WL.qc (oq_call (epochMilli ms h1 h2) call106 rfl) rfl rfl rfl ?_
 refine WL.q (oq_assign rfl) rfl rfl rfl ?_
 refine WL.nil (WE.then_normal (WC.sub (fr' := [(1, _), (5, _), (6, _)]) ?_ ⟨rfl, rfl, rfl, trivial⟩))
 refine WC.seq (WC.region ?_)
 refine WL.q (oq_loadS [_, _, _] agg166 ty166 rfl (.head _) (List.mem_singleton.2 rfl) rfl rfl) rfl rfl rfl ?_
 refine WL.q (oq_move rfl) rfl rfl rfl ?_
 refine WL.q (oq_move rfl) rfl rfl rfl ?_
 refine WL.q (oq_makeI conc2 rfl) rfl rfl rfl ?_
 refine WL.f2 ?_
 refine WL.callW1 (encScalar _ k r f Wt hW acc0 G hG 8 (.int .u16 0) (.slice none 0 0) ⟨2, .i64, 8, ms⟩ (by simp [Num.ok, Num.kinds]) hal) call78 rfl rfl rfl fun v3_4 Hs3_4 hR3_4 => ?_
 obtain ⟨G2, rfl, rfl, hG2⟩ := hR3_4
 refine WL.to1 ?_
 refine WL.q (oq_assign rfl) rfl rfl rfl ?_
 refine WL.nil (WE.then_normal (WC.sub (fr' := [(4, _)]) ?_ ⟨rfl, trivial⟩))
 refine WC.ret ?_
 refine WE.f1 ?_
 refine WE.lose hb1_3 ?_
 refine WE.f1 ?_
 refine WE.lose hb0_0 ?_
 refine WE.endW1 (.inl rfl) (res1 Tryz.results104 rfl) ?_
 exact ⟨_, rfl, rfl, hG2⟩
end EH
end Go.Proofs.YtinkaobaboffcaaGreatDoor
/- Values of headers. -/
namespace Go.Proofs.YtinkaobaboffcaaGreatDoor
open Go Go.RowKit V EA EB EC ED EE EF EG EH
set_option linter.unusedSimpArgs false
set_option linter.unusedVariables false
set_option maxRecDepth 10000
namespace EI
theorem call19 : Callable Tryz.prog 19 := ⟨_, Tryz.func19, rfl, by kernel_rfl⟩
theorem call94 : Callable Tryz.prog 94 := ⟨_, Tryz.func94, rfl, by kernel_rfl⟩
theorem call96 : Callable Tryz.prog 96 := ⟨_, Tryz.func96, rfl, by kernel_rfl⟩
theorem call100 : Callable Tryz.prog 100 := ⟨_, Tryz.func100, rfl, by kernel_rfl⟩
theorem call101 : Callable Tryz.prog 101 := ⟨_, Tryz.func101, rfl, by kernel_rfl⟩
theorem flat2 : Flat Tryz.prog 2 := ⟨_, Tryz.underlying2, by simp⟩
theorem flat3 : Flat Tryz.prog 3 := ⟨_, Tryz.underlying3, by simp⟩
theorem flat9 : Flat Tryz.prog 9 := ⟨_, Tryz.underlying9, by simp⟩
theorem ty2 : Ty Tryz.prog 2 (.int .i64 0) 1 8 := ty_of (by kernel_rfl)
theorem ty3 : Ty Tryz.prog 3 (.int .i64 0) 1 8 := ty_of (by kernel_rfl)
theorem ty5 : Ty Tryz.prog 5 (.int .u8 0) 1 1 := ty_of (by kernel_rfl)
theorem ty9 : Ty Tryz.prog 9 (S []) 1 16 := ty_of (by kernel_rfl)
theorem ty72 : Ty Tryz.prog 72 (.agg #[(.int .u8 0), (.int .u8 0), (.int .u8 0), (.int .u8 0), (.int .u8 0), (.int .u8 0), (.int .u8 0), (.int .u8 0), (.int .u8 0), (.int .u8 0), (.int .u8 0), (.int .u8 0), (.int .u8 0), (.int .u8 0), (.int .u8 0), (.int .u8 0)]) 16 16 := ty_of (by kernel_rfl)
theorem ty104 : Ty Tryz.prog 104 (.agg #[(S []), (.int .i64 0), (.int .i64 0), .nilIface]) 4 48 := ty_of (by kernel_rfl)
theorem ty166 : Ty Tryz.prog 166 (.agg #[(.int .u8 0), (.int .u16 0), (.slice none 0 0)]) 3 32 := ty_of (by kernel_rfl)
theorem conc9 : Conc Tryz.prog 9 := ⟨_, Tryz.underlying9, by simp⟩
theorem conc31 : Conc Tryz.prog 31 := ⟨_, Tryz.underlying31, by simp⟩
theorem conc60 : Conc Tryz.prog 60 := ⟨_, Tryz.underlying60, by simp⟩
theorem conc62 : Conc Tryz.prog 62 := ⟨_, Tryz.underlying62, by simp⟩
theorem conc63 : Conc Tryz.prog 63 := ⟨_, Tryz.underlying63, by simp⟩
theorem conc64 : Conc Tryz.prog 64 := ⟨_, Tryz.underlying64, by simp⟩
theorem conc65 : Conc Tryz.prog 65 := ⟨_, Tryz.underlying65, by simp⟩
theorem conc66 : Conc Tryz.prog 66 := ⟨_, Tryz.underlying66, by simp⟩
theorem conc68 : Conc Tryz.prog 68 := ⟨_, Tryz.underlying68, by simp⟩
theorem conc72 : Conc Tryz.prog 72 := ⟨_, Tryz.underlying72, by simp⟩
theorem conc73 : Conc Tryz.prog 73 := ⟨_, Tryz.underlying73, by simp⟩
theorem conc104 : Conc Tryz.prog 104 := ⟨_, Tryz.underlying104, by simp⟩
theorem agg72 : Agg Tryz.prog 72 := agg_arr Tryz.underlying72
theorem agg166 : Agg Tryz.prog 166 := agg_of Tryz.underlying166
theorem str104 : Str Tryz.prog 104 #[(0, 1), (1, 1), (2, 1), (3, 1)] := ⟨_, Tryz.underlying104, fun w => by kernel_rfl⟩
theorem str166 : Str Tryz.prog 166 #[(0, 1), (1, 1), (2, 1)] := ⟨_, Tryz.underlying166, fun w => by kernel_rfl⟩
theorem fld23_0 : Fld Tryz.prog 23 0 0 3 := fld_of Tryz.underlying23 rfl rfl rfl ty3 (by decide)
theorem fld23_1 : Fld Tryz.prog 23 1 1 3 := fld_of Tryz.underlying23 rfl rfl rfl ty3 (by decide)
theorem fld23_2 : Fld Tryz.prog 23 2 2 2 := fld_of Tryz.underlying23 rfl rfl rfl ty2 (by decide)
theorem fld23_3 : Fld Tryz.prog 23 3 3 9 := fld_of Tryz.underlying23 rfl rfl rfl ty9 (by decide)
theorem encBytesX (base : Nat) (t : UInt8) (l1 l2 k : Value) (s : Value) (Z G : Hp) (data : List UInt8) (hr : RdS 1 s Z data.length (bytesV data)) (hdl : 32767 < data.length) (hl : data.length ≤ 400000) : FnW Tryz.prog 96 [.agg #[.int .u8 (t.toNat : Int), l1, l2], k, s] base [G, Z] (fun w Hs => ∃ e, w = .iface 104 e ∧ Hs = [G, Z]) := by
 refine FnW.enter (n := 40) Tryz.func96 rfl rfl fun w0 R0 hbase => ?_
 subst hbase
 show WC _ _ _ _ _ _ _ ([G, Z, R0])
 refine WC.sub (fr' := [(0, _), (1, _), (2, _)]) ?_ ⟨rfl, rfl, rfl, trivial⟩
 refine WC.seq (WC.region ?_)
 refine WL.box rfl rfl rfl fun b0_0 hb0_0 => ?_
 refine WL.q (oq_assign rfl) rfl rfl rfl ?_
 refine WL.nil (WE.then_normal (WC.sub (fr' := [(1, _), (2, _), (3, _)]) ?_ ⟨rfl, rfl, rfl, trivial⟩))
 refine WC.seq (WC.seq (WC.region ?_))
 refine WL.q (oq_move rfl) rfl rfl rfl ?_
 refine WL.q (oq_len_rd hr Tryz.underlying31 rfl) rfl rfl rfl ?_
 refine WL.q (oq_gtr rfl rfl) rfl rfl rfl ?_
 refine WL.nil (WE.then_normal (WC.sub (fr' := [(1, _), (2, _), (3, _), (10, _)]) ?_ ⟨rfl, rfl, rfl, rfl, trivial⟩))
 refine WC.cond rfl (fun q1 => ?_) (fun q1 => ?_)
 ·
  try simp only [Z1, Z2, Z3, Z4, Z5, Z6, Z7, Z8, Z9, Z0] at q1
  refine WC.seq (WC.region ?_)
  refine WL.q (oq_move rfl) rfl rfl rfl ?_
  refine WL.q (oq_len_rd hr Tryz.underlying31 rfl) rfl rfl rfl ?_
  refine WL.q (oq_move rfl) rfl rfl rfl ?_
  refine WL.q (oq_makeI conc31 rfl) rfl rfl rfl ?_
  refine WL.q (oq_build #[_, _, _, _] str104 ty104 rfl rfl) rfl rfl rfl ?_
  refine WL.q (oq_makeI conc104 rfl) rfl rfl rfl ?_
  refine WL.q (oq_assign rfl) rfl rfl rfl ?_
  refine WL.nil (WE.then_normal (WC.sub (fr' := [(6, _)]) ?_ ⟨rfl, trivial⟩))
  refine WC.ret (WE.then_ret ?_)
  refine WE.lose hb0_0 ?_
  refine WE.endW2 (.inl rfl) (res1 Tryz.results96 rfl) ?_
  exact ⟨_, rfl, rfl⟩
 ·
  try simp only [Z1, Z2, Z3, Z4, Z5, Z6, Z7, Z8, Z9, Z0] at q1
  first | contradiction | (exfalso; omega) | (exfalso; simp_all; done)
theorem encStringX (base : Nat) (t : UInt8) (l1 l2 k : Value) (G : Hp) (data : List UInt8) (hdl : 32767 < data.length) (hl : data.length ≤ 400000) : FnW Tryz.prog 101 [.agg #[.int .u8 (t.toNat : Int), l1, l2], k, S data] base [G] (fun w Hs => ∃ e, w = .iface 104 e ∧ Hs = [G]) := by
 refine FnW.enter (n := 55) Tryz.func101 rfl rfl fun w0 R0 hbase => ?_
 subst hbase
 show WC _ _ _ _ _ _ _ ([G, R0])
 refine WC.sub (fr' := [(0, _), (1, _), (2, _)]) ?_ ⟨rfl, rfl, rfl, trivial⟩
 refine WC.seq (WC.region ?_)
 refine WL.box rfl rfl rfl fun b0_0 hb0_0 => ?_
 refine WL.q (oq_assign rfl) rfl rfl rfl ?_
 refine WL.nil (WE.then_normal (WC.sub (fr' := [(1, _), (2, _), (3, _)]) ?_ ⟨rfl, rfl, rfl, trivial⟩))
 refine WC.seq (WC.seq (WC.region ?_))
 refine WL.q (oq_move rfl) rfl rfl rfl ?_
 refine WL.q (oq_len_s Tryz.underlying9 rfl) rfl rfl rfl ?_
 refine WL.q (oq_gtr rfl rfl) rfl rfl rfl ?_
 refine WL.nil (WE.then_normal (WC.sub (fr' := [(1, _), (2, _), (3, _), (12, _)]) ?_ ⟨rfl, rfl, rfl, rfl, trivial⟩))
 refine WC.cond rfl (fun q1 => ?_) (fun q1 => ?_)
 ·
  try simp only [Z1, Z2, Z3, Z4, Z5, Z6, Z7, Z8, Z9, Z0] at q1
  refine WC.seq (WC.region ?_)
  refine WL.q (oq_move rfl) rfl rfl rfl ?_
  refine WL.q (oq_len_s Tryz.underlying9 rfl) rfl rfl rfl ?_
  refine WL.q (oq_move rfl) rfl rfl rfl ?_
  refine WL.q (oq_makeI conc9 rfl) rfl rfl rfl ?_
  refine WL.q (oq_build #[_, _, _, _] str104 ty104 rfl rfl) rfl rfl rfl ?_
  refine WL.q (oq_makeI conc104 rfl) rfl rfl rfl ?_
  refine WL.q (oq_assign rfl) rfl rfl rfl ?_
  refine WL.nil (WE.then_normal (WC.sub (fr' := [(6, _)]) ?_ ⟨rfl, trivial⟩))
  refine WC.ret (WE.then_ret ?_)
  refine WE.lose hb0_0 ?_
  refine WE.endW1 (.inl rfl) (res1 Tryz.results101 rfl) ?_
  exact ⟨_, rfl, rfl⟩
 ·
  try simp only [Z1, Z2, Z3, Z4, Z5, Z6, Z7, Z8, Z9, Z0] at q1
  first | contradiction | (exfalso; omega) | (exfalso; simp_all; done)
theorem encBytesValueX (base : Nat) (k : Value) (s : Value) (Z G : Hp) (data : List UInt8) (hr : RdS 1 s Z data.length (bytesV data)) (hdl : 32767 < data.length) (hl : data.length ≤ 400000) : FnW Tryz.prog 93 [s, k] base [G, Z] (fun w Hs => ∃ e, w = .iface 104 e ∧ Hs = [G, Z]) := by
 refine FnW.enter (n := 13) Tryz.func93 rfl rfl fun w0 R0 hbase => ?_
 subst hbase
 show WC _ _ _ _ _ _ _ ([G, Z, R0])
 refine WC.sub (fr' := [(0, _), (1, _)]) ?_ ⟨rfl, rfl, trivial⟩
 refine WC.seq (WC.region ?_)
 refine WL.q (oq_assign rfl) rfl rfl rfl ?_
 refine WL.nil (WE.then_normal (WC.sub (fr' := [(0, _), (1, _)]) ?_ ⟨rfl, rfl, trivial⟩))
 refine WC.seq (WC.region ?_)
 refine WL.q (oq_move rfl) rfl rfl rfl ?_
 refine WL.qc (oq_call (vtBytesValue s) call94 rfl) rfl rfl rfl ?_
 refine WL.q (oq_build #[_, _, _] str166 ty166 rfl rfl) rfl rfl rfl ?_
 refine WL.alloc ty166 rfl rfl fun b1_3 hb1_3 => ?_
 refine WL.storeS #[_, _, _] ty166 rfl rfl rfl rfl (Nat.le_of_ble_eq_true rfl) rfl rfl ?_
 refine WL.nil (WE.then_normal (WC.sub (fr' := [(0, _), (1, _), (5, _)]) ?_ ⟨rfl, rfl, rfl, trivial⟩))
 refine WC.seq (WC.region ?_)
 refine WL.q (oq_loadS [_, _, _] agg166 ty166 rfl (.head _) (List.mem_singleton.2 rfl) rfl rfl) rfl rfl rfl ?_
 refine WL.q (oq_move rfl) rfl rfl rfl ?_
 refine WL.q (oq_move rfl) rfl rfl rfl ?_
 refine WL.f2 ?_
 refine WL.f2 ?_
 refine WL.callW2 (encBytesX _ 6 (.int .u16 0) (.slice none 0 0) k s Z G data hr hdl hl) call96 rfl rfl rfl fun v2_3 Hs2_3 hR2_3 => ?_
 obtain ⟨e, rfl, rfl⟩ := hR2_3
 refine WL.to2 ?_
 refine WL.q (oq_assign rfl) rfl rfl rfl ?_
 refine WL.nil (WE.then_normal (WC.sub (fr' := [(4, _)]) ?_ ⟨rfl, trivial⟩))
 refine WC.ret ?_
 refine WE.f2 ?_
 refine WE.lose hb1_3 ?_
 refine WE.endW2 (.inl rfl) (res1 Tryz.results93 rfl) ?_
 exact ⟨_, rfl, rfl⟩
theorem encStringValueX (base : Nat) (k : Value) (G : Hp) (data : List UInt8) (hdl : 32767 < data.length) (hl : data.length ≤ 400000) : FnW Tryz.prog 99 [S data, k] base [G] (fun w Hs => ∃ e, w = .iface 104 e ∧ Hs = [G]) := by
 refine FnW.enter (n := 13) Tryz.func99 rfl rfl fun w0 R0 hbase => ?_
 subst hbase
 show WC _ _ _ _ _ _ _ ([G, R0])
 refine WC.sub (fr' := [(0, _), (1, _)]) ?_ ⟨rfl, rfl, trivial⟩
 refine WC.seq (WC.region ?_)
 refine WL.q (oq_assign rfl) rfl rfl rfl ?_
 refine WL.nil (WE.then_normal (WC.sub (fr' := [(0, _), (1, _)]) ?_ ⟨rfl, rfl, trivial⟩))
 refine WC.seq (WC.region ?_)
 refine WL.q (oq_move rfl) rfl rfl rfl ?_
 refine WL.qc (oq_call (vtStringValue (S data)) call100 rfl) rfl rfl rfl ?_
 refine WL.q (oq_build #[_, _, _] str166 ty166 rfl rfl) rfl rfl rfl ?_
 refine WL.alloc ty166 rfl rfl fun b1_3 hb1_3 => ?_
 refine WL.storeS #[_, _, _] ty166 rfl rfl rfl rfl (Nat.le_of_ble_eq_true rfl) rfl rfl ?_
 refine WL.nil (WE.then_normal (WC.sub (fr' := [(0, _), (1, _), (5, _)]) ?_ ⟨rfl, rfl, rfl, trivial⟩))
 refine WC.seq (WC.region ?_)
 refine WL.q (oq_loadS [_, _, _] agg166 ty166 rfl (.head _) (List.mem_singleton.2 rfl) rfl rfl) rfl rfl rfl ?_
 refine WL.q (oq_move rfl) rfl rfl rfl ?_
 refine WL.q (oq_move rfl) rfl rfl rfl ?_
 refine WL.f1 ?_
 refine WL.callW1 (encStringX _ 7 (.int .u16 0) (.slice none 0 0) k G data hdl hl) call101 rfl rfl rfl fun v2_3 Hs2_3 hR2_3 => ?_
 obtain ⟨e, rfl, rfl⟩ := hR2_3
 refine WL.to1 ?_
 refine WL.q (oq_assign rfl) rfl rfl rfl ?_
 refine WL.nil (WE.then_normal (WC.sub (fr' := [(4, _)]) ?_ ⟨rfl, trivial⟩))
 refine WC.ret ?_
 refine WE.f1 ?_
 refine WE.lose hb1_3 ?_
 refine WE.endW1 (.inl rfl) (res1 Tryz.results99 rfl) ?_
 exact ⟨_, rfl, rfl⟩
structure HV where
 name : List UInt8
 kind : Int
 width : Int
 int : Int
 text : List UInt8
def HV.row (h : HV) : List Value := [S h.name, I h.kind, I h.width, I h.int, S h.text]
def fineV (h : HV) : Prop := 0 ≤ h.kind ∧ h.kind ≤ 5 ∧ (h.kind = 1 → (h.width = 8 ∧ -128 ≤ h.int ∧ h.int ≤ 127) ∨ (h.width = 16 ∧ -32768 ≤ h.int ∧ h.int ≤ 32767) ∨ (h.width = 32 ∧ -2147483648 ≤ h.int ∧ h.int ≤ 2147483647) ∨ h.width = 64) ∧ (h.kind = 5 → h.text.length = 16) ∧ (h.kind = 4 → -9200000000000 ≤ h.int ∧ h.int ≤ 9200000000000)
def badT (h : HV) : Bool := (h.kind == 2 || h.kind == 3) && decide (32767 < h.text.length)
def tagW (w : Int) : UInt8 := if w = 8 then 2 else if w = 16 then 3 else if w = 32 then 4 else 5
def enc (h : HV) : List UInt8 :=
 if h.kind = 1 then tagW h.width :: be (h.width / 8).toNat h.int
 else if h.kind = 2 then 6 :: be 2 h.text.length ++ h.text
 else if h.kind = 3 then 7 :: be 2 h.text.length ++ h.text
 else if h.kind = 4 then 8 :: be 8 h.int
 else if h.kind = 5 then 9 :: h.text
 else [if h.int = 0 then 1 else 0]
abbrev encName : String := "given.example/pub-tinwright/pub/smithy/eventstream.encode"
def EncR (base bb : Nat) (h : HV) (acc : List UInt8) (N : Hp) (w : Value) (Hs : List Hp) : Prop :=
 if badT h then ∃ e G', w = .iface 104 e ∧ Hs = [G', N] ∧ BufG base bb acc G' else ∃ G', w = .nilIface ∧ Hs = [G', N] ∧ BufG base bb (acc ++ enc h) G'
def VOk (h : HV) (v : Value) (N : Hp) : Prop :=
 ∃ k r f, v = .iface k r ∧ Inv1 Tryz.prog k encName f ∧ ∀ base bb acc G, BufG base bb acc G → acc.length ≤ 250000 → FnW Tryz.prog f [r, (.iface 53 (Pt bb 0))] base [G, N] (EncR base bb h acc N)
theorem VOk.wide {h : HV} {v : Value} {N Z D : Hp} (hv : VOk h v N) (p : Z.Perm (N ++ D)) : VOk h v Z := by
 obtain ⟨k, r, f, rfl, hi, hf⟩ := hv
 refine ⟨k, r, f, rfl, hi, fun base bb acc G hG hl w0 R0 w hbase hw => ?_⟩
 have p1 : (([G, Z] : List Hp) ++ [R0]).flatten.Perm (([G, N] : List Hp) ++ [D ++ R0]).flatten := by
  simp only [List.cons_append, List.nil_append, List.flatten_cons, List.flatten_nil, List.append_nil, List.append_assoc]
  refine List.Perm.append_left _ ?_
  rw [← List.append_assoc]
  exact p.append_right _
 refine (hf base bb acc G hG hl w0 (D ++ R0) w hbase (hw.perm p1)).mono ?_
 rintro e w' ⟨u, Hs, he, hR, hst⟩
 have back : ∀ G' : Hp, (([G', N] : List Hp) ++ [D ++ R0]).flatten.Perm (([G', Z] : List Hp) ++ [R0]).flatten := fun G' => by
  simp only [List.cons_append, List.nil_append, List.flatten_cons, List.flatten_nil, List.append_nil, List.append_assoc]
  refine List.Perm.append_left _ ?_
  rw [← List.append_assoc]
  exact (p.append_right _).symm
 unfold EncR at hR ⊢
 split at hR
 ·obtain ⟨e1, G', rfl, rfl, hG1⟩ := hR
  exact ⟨_, [G', Z], he, by rename_i hb; rw [if_pos hb]; exact ⟨e1, G', rfl, rfl, hG1⟩, hst.perm (back G')⟩
 ·obtain ⟨G', rfl, rfl, hG'⟩ := hR
  exact ⟨_, [G', Z], he, by rename_i hb; rw [if_neg hb]; exact ⟨G', rfl, rfl, hG'⟩, hst.perm (back G')⟩
theorem vok0 {h : HV} {k : TypeId} {r : Value} {f : FuncId} (hi : Inv1 Tryz.prog k encName f) (hb : badT h = false) (hf : ∀ base bb acc G, BufG base bb acc G → acc.length ≤ 250000 → FnW Tryz.prog f [r, (.iface 53 (Pt bb 0))] base [G] (Then (BufG base bb) (acc ++ enc h) [])) : VOk h (.iface k r) [] := by
 refine ⟨k, r, f, rfl, hi, fun base bb acc G hG hl w0 R0 w hbase hw => ?_⟩
 refine (hf base bb acc G hG hl w0 R0 w hbase (by simpa using hw)).mono ?_
 rintro e w' ⟨u, Hs, he, ⟨G', rfl, rfl, hG'⟩, hst⟩
 exact ⟨_, [G', []], he, by unfold EncR; rw [hb]; exact ⟨G', rfl, rfl, hG'⟩, by simpa using hst⟩
theorem vokX {h : HV} {k : TypeId} {r : Value} {f : FuncId} (hi : Inv1 Tryz.prog k encName f) (hb : badT h = true) (hf : ∀ base bb G, FnW Tryz.prog f [r, (.iface 53 (Pt bb 0))] base [G] (fun w Hs => ∃ e, w = .iface 104 e ∧ Hs = [G])) : VOk h (.iface k r) [] := by
 refine ⟨k, r, f, rfl, hi, fun base bb acc G hG hl w0 R0 w hbase hw => ?_⟩
 refine (hf base bb G w0 R0 w hbase (by simpa using hw)).mono ?_
 rintro e w' ⟨u, Hs, he, ⟨e1, rfl, rfl⟩, hst⟩
 exact ⟨_, [G, []], he, by unfold EncR; rw [hb]; exact ⟨e1, G, rfl, rfl, hG⟩, by simpa using hst⟩
theorem invInt8Value : Inv1 Tryz.prog 60 encName 75 := fun x a w => by kernel_rfl
theorem invInt16Value : Inv1 Tryz.prog 62 encName 81 := fun x a w => by kernel_rfl
theorem invInt32Value : Inv1 Tryz.prog 63 encName 85 := fun x a w => by kernel_rfl
theorem invInt64Value : Inv1 Tryz.prog 64 encName 89 := fun x a w => by kernel_rfl
theorem invBytesValue : Inv1 Tryz.prog 65 encName 93 := fun x a w => by kernel_rfl
theorem invStringValue : Inv1 Tryz.prog 66 encName 99 := fun x a w => by kernel_rfl
theorem invTimestampValue : Inv1 Tryz.prog 68 encName 104 := fun x a w => by kernel_rfl
theorem invUUIDValue : Inv1 Tryz.prog 72 encName 114 := fun x a w => by kernel_rfl
theorem invBoolValue : Inv1 Tryz.prog 73 encName 120 := fun x a w => by kernel_rfl
theorem enc_1 {h : HV} (hk : h.kind = 1) : enc h = tagW h.width :: be (h.width / 8).toNat h.int := by unfold enc; rw [if_pos hk]
theorem bad_no {h : HV} (h2 : h.kind ≠ 2) (h3 : h.kind ≠ 3) : badT h = false := by unfold badT; simp [h2, h3]
theorem vokInt8Value {h : HV} (hk : h.kind = 1) (hw : h.width = 8) : VOk h (.iface 60 (.int .i8 h.int)) [] := by
 refine vok0 invInt8Value (bad_no (by omega) (by omega)) fun base bb acc G hG hal => ?_
 have he : enc h = 2 :: be 1 h.int := by rw [enc_1 hk, hw]; rfl
 rw [he]
 exact encInt8Value base _ _ _ _ (bufWr base bb) acc G hG h.int (by omega)
theorem vokInt16Value {h : HV} (hk : h.kind = 1) (hw : h.width = 16) : VOk h (.iface 62 (.int .i16 h.int)) [] := by
 refine vok0 invInt16Value (bad_no (by omega) (by omega)) fun base bb acc G hG hal => ?_
 have he : enc h = 3 :: be 2 h.int := by rw [enc_1 hk, hw]; rfl
 rw [he]
 exact encInt16Value base _ _ _ _ (bufWr base bb) acc G hG h.int (by omega)
theorem vokInt32Value {h : HV} (hk : h.kind = 1) (hw : h.width = 32) : VOk h (.iface 63 (.int .i32 h.int)) [] := by
 refine vok0 invInt32Value (bad_no (by omega) (by omega)) fun base bb acc G hG hal => ?_
 have he : enc h = 4 :: be 4 h.int := by rw [enc_1 hk, hw]; rfl
 rw [he]
 exact encInt32Value base _ _ _ _ (bufWr base bb) acc G hG h.int (by omega)
theorem vokInt64Value {h : HV} (hk : h.kind = 1) (hw : h.width = 64) : VOk h (.iface 64 (.int .i64 h.int)) [] := by
 refine vok0 invInt64Value (bad_no (by omega) (by omega)) fun base bb acc G hG hal => ?_
 have he : enc h = 5 :: be 8 h.int := by rw [enc_1 hk, hw]; rfl
 rw [he]
 exact encInt64Value base _ _ _ _ (bufWr base bb) acc G hG h.int (by omega)
theorem vokBytes {h : HV} {s : Value} {N : Hp} (hk : h.kind = 2) (hr : RdS 1 s N h.text.length (bytesV h.text)) (hl : h.text.length ≤ 400000) : VOk h (.iface 65 s) N := by
 refine ⟨_, _, _, rfl, invBytesValue, fun base bb acc G hG hal => ?_⟩
 by_cases hb : 32767 < h.text.length
 ·refine (encBytesValueX base _ s N G h.text hr hb hl).mono ?_
  rintro w Hs ⟨e, rfl, rfl⟩
  have hbd : badT h = true := by unfold badT; simp [hk, hb]
  unfold EncR; rw [hbd]
  exact ⟨e, G, rfl, rfl, hG⟩
 ·refine (encBytesValue base _ _ _ _ (bufWr base bb) acc G hG s N h.text hr (by omega) hal).mono ?_
  rintro w Hs ⟨G', rfl, rfl, hG'⟩
  have he : enc h = 6 :: be 2 h.text.length ++ h.text := by unfold enc; rw [if_neg (by omega), if_pos hk]
  have hbd : badT h = false := by unfold badT; simp [hb]
  unfold EncR; rw [hbd]
  exact ⟨G', rfl, rfl, by rw [he]; exact hG'⟩
theorem vokString {h : HV} (hk : h.kind = 3) (hl : h.text.length ≤ 400000) : VOk h (.iface 66 (S h.text)) [] := by
 by_cases hb : 32767 < h.text.length
 ·exact vokX invStringValue (by unfold badT; simp [hk, hb]) fun base bb G => encStringValueX base _ G h.text hb hl
 ·refine vok0 invStringValue (by unfold badT; simp [hb]) fun base bb acc G hG hal => ?_
  have he : enc h = 7 :: be 2 h.text.length ++ h.text := by unfold enc; rw [if_neg (by omega), if_neg (by omega), if_pos hk]
  rw [he]
  exact encStringValue base bb acc G hG h.text (by omega) hal
theorem vokTime {h : HV} (hk : h.kind = 4) (h1 : -9200000000000 ≤ h.int) (h2 : h.int ≤ 9200000000000) : VOk h (.iface 68 (msV h.int)) [] := by
 refine vok0 invTimestampValue (bad_no (by omega) (by omega)) fun base bb acc G hG hal => ?_
 have he : enc h = 8 :: be 8 h.int := by unfold enc; rw [if_neg (by omega), if_neg (by omega), if_neg (by omega), if_pos hk]
 rw [he]
 exact encTimestampValue base _ _ _ _ (bufWr base bb) acc G hG h.int h1 h2 (by omega)
theorem vokUUID {h : HV} (hk : h.kind = 5) (hl : h.text.length = 16) : VOk h (.iface 72 (.agg (bytesV h.text).toArray)) [] := by
 refine vok0 invUUIDValue (bad_no (by omega) (by omega)) fun base bb acc G hG hal => ?_
 have he : enc h = 9 :: h.text := by unfold enc; rw [if_neg (by omega), if_neg (by omega), if_neg (by omega), if_neg (by omega), if_pos hk]
 rw [he]
 exact encUUIDValue base _ _ _ _ (bufWr base bb) acc G hG h.text hl hal
theorem vokBool {h : HV} (hk : h.kind = 0) : VOk h (.iface 73 (.bool (decide (¬ h.int = 0)))) [] := by
 refine vok0 invBoolValue (bad_no (by omega) (by omega)) fun base bb acc G hG hal => ?_
 have he : enc h = [if (decide (¬ h.int = 0)) then 0 else 1] := by
  unfold enc; rw [if_neg (by omega), if_neg (by omega), if_neg (by omega), if_neg (by omega), if_neg (by omega)]
  by_cases h0 : h.int = 0 <;> simp [h0]
 rw [he]
 exact encBoolValue base _ _ _ _ (bufWr base bb) acc G hG _ (by omega)
theorem valueFor (h : HV) (hf : fineV h) (hl : h.text.length ≤ 400000) : FnA Tryz.prog 10 [.agg #[I h.kind, I h.width, I h.int, S h.text]] [] (fun v N => VOk h v N) := by
 obtain ⟨hk0, hk5, hwd, hun, htm⟩ := hf
 refine FnA.enter0 (n := 60) Tryz.func10 rfl rfl fun w0 => ?_
 refine WC.sub (fr' := [(0, _)]) ?_ ⟨rfl, trivial⟩
 refine WC.seq (WC.region ?_)
 refine WL.box rfl rfl rfl fun b0_0 hb0_0 => ?_
 refine WL.q (oq_assign rfl) rfl rfl rfl ?_
 refine WL.nil (WE.then_normal (WC.sub (fr' := [(1, _)]) ?_ ⟨rfl, trivial⟩))
 refine WC.seq (WC.seq (WC.region ?_))
 refine WL.q (oq_fieldAddr fld23_0 rfl) rfl rfl rfl ?_
 refine WL.q (oq_load flat3 rfl (.head _) (List.mem_singleton.2 rfl) rfl) rfl rfl rfl ?_
 refine WL.nil (WE.then_normal (WC.sub (fr' := [(1, _), (5, _)]) ?_ ⟨rfl, rfl, trivial⟩))
 refine WC.block (WC.seq (WC.region ?_))
 refine WL.q (oq_eql rfl rfl) rfl rfl rfl ?_
 refine WL.q (oq_assign rfl) rfl rfl rfl ?_
 refine WL.nil (WE.then_normal (WC.sub (fr' := [(1, _), (5, _), (6, _)]) ?_ ⟨rfl, rfl, rfl, trivial⟩))
 refine WC.cond rfl (fun q2 => ?_) (fun q2 => ?_)
 ·
  try simp only [Z1, Z2, Z3, Z4, Z5, Z6, Z7, Z8, Z9, Z0] at q2
  refine WC.seq (WC.seq (WC.region ?_))
  refine WL.q (oq_fieldAddr fld23_1 rfl) rfl rfl rfl ?_
  refine WL.q (oq_load flat3 rfl (.head _) (List.mem_singleton.2 rfl) rfl) rfl rfl rfl ?_
  refine WL.nil (WE.then_normal (WC.sub (fr' := [(1, _), (9, _)]) ?_ ⟨rfl, rfl, trivial⟩))
  refine WC.block (WC.seq (WC.region ?_))
  refine WL.q (oq_eql rfl rfl) rfl rfl rfl ?_
  refine WL.q (oq_assign rfl) rfl rfl rfl ?_
  refine WL.nil (WE.then_normal (WC.sub (fr' := [(1, _), (9, _), (10, _)]) ?_ ⟨rfl, rfl, rfl, trivial⟩))
  refine WC.cond rfl (fun q4 => ?_) (fun q4 => ?_)
  ·
   try simp only [Z1, Z2, Z3, Z4, Z5, Z6, Z7, Z8, Z9, Z0] at q4
   refine WC.seq ?_
   have hw8 := hwd q2
   refine WC.region ?_
   refine WL.q (oq_fieldAddr fld23_2 rfl) rfl rfl rfl ?_
   refine WL.q (oq_load flat2 rfl (.head _) (List.mem_singleton.2 rfl) rfl) rfl rfl rfl ?_
   refine WL.q (oq_conv Tryz.underlying2 Tryz.underlying60 rfl (by rw [i8_lo, i8_hi]; (first | omega | (simp only [List.length_cons, List.length_nil, List.length_append, List.length_drop, List.length_take]; omega)))) rfl rfl rfl ?_
   refine WL.q (oq_makeI conc60 rfl) rfl rfl rfl ?_
   refine WL.q (oq_assign rfl) rfl rfl rfl ?_
   refine WL.nil (WE.then_normal (WC.sub (fr' := [(2, _)]) ?_ ⟨rfl, trivial⟩))
   refine WC.ret (WE.block_ret (WE.then_ret (WE.block_ret (WE.then_ret ?_))))
   refine WE.lose hb0_0 ?_
   refine WE.add0 ?_
   refine WE.endA0 (.inl rfl) (res1 Tryz.results10 rfl) ?_ fresh0
   exact vokInt8Value q2 q4
  ·
   try simp only [Z1, Z2, Z3, Z4, Z5, Z6, Z7, Z8, Z9, Z0] at q4
   refine WC.seq (WC.region ?_)
   refine WL.q (oq_eql rfl rfl) rfl rfl rfl ?_
   refine WL.q (oq_assign rfl) rfl rfl rfl ?_
   refine WL.nil (WE.then_normal (WC.sub (fr' := [(1, _), (9, _), (16, _)]) ?_ ⟨rfl, rfl, rfl, trivial⟩))
   refine WC.cond rfl (fun q6 => ?_) (fun q6 => ?_)
   ·
    try simp only [Z1, Z2, Z3, Z4, Z5, Z6, Z7, Z8, Z9, Z0] at q6
    refine WC.seq ?_
    have hw8 := hwd q2
    refine WC.region ?_
    refine WL.q (oq_fieldAddr fld23_2 rfl) rfl rfl rfl ?_
    refine WL.q (oq_load flat2 rfl (.head _) (List.mem_singleton.2 rfl) rfl) rfl rfl rfl ?_
    refine WL.q (oq_conv Tryz.underlying2 Tryz.underlying62 rfl (by rw [i16_lo, i16_hi]; (first | omega | (simp only [List.length_cons, List.length_nil, List.length_append, List.length_drop, List.length_take]; omega)))) rfl rfl rfl ?_
    refine WL.q (oq_makeI conc62 rfl) rfl rfl rfl ?_
    refine WL.q (oq_assign rfl) rfl rfl rfl ?_
    refine WL.nil (WE.then_normal (WC.sub (fr' := [(2, _)]) ?_ ⟨rfl, trivial⟩))
    refine WC.ret (WE.block_ret (WE.then_ret (WE.block_ret (WE.then_ret ?_))))
    refine WE.lose hb0_0 ?_
    refine WE.add0 ?_
    refine WE.endA0 (.inl rfl) (res1 Tryz.results10 rfl) ?_ fresh0
    exact vokInt16Value q2 q6
   ·
    try simp only [Z1, Z2, Z3, Z4, Z5, Z6, Z7, Z8, Z9, Z0] at q6
    refine WC.seq (WC.region ?_)
    refine WL.q (oq_eql rfl rfl) rfl rfl rfl ?_
    refine WL.q (oq_assign rfl) rfl rfl rfl ?_
    refine WL.nil (WE.then_normal (WC.sub (fr' := [(1, _), (22, _)]) ?_ ⟨rfl, rfl, trivial⟩))
    refine WC.cond rfl (fun q8 => ?_) (fun q8 => ?_)
    ·
     try simp only [Z1, Z2, Z3, Z4, Z5, Z6, Z7, Z8, Z9, Z0] at q8
     refine WC.seq ?_
     have hw8 := hwd q2
     refine WC.region ?_
     refine WL.q (oq_fieldAddr fld23_2 rfl) rfl rfl rfl ?_
     refine WL.q (oq_load flat2 rfl (.head _) (List.mem_singleton.2 rfl) rfl) rfl rfl rfl ?_
     refine WL.q (oq_conv Tryz.underlying2 Tryz.underlying63 rfl (by rw [i32_lo, i32_hi]; (first | omega | (simp only [List.length_cons, List.length_nil, List.length_append, List.length_drop, List.length_take]; omega)))) rfl rfl rfl ?_
     refine WL.q (oq_makeI conc63 rfl) rfl rfl rfl ?_
     refine WL.q (oq_assign rfl) rfl rfl rfl ?_
     refine WL.nil (WE.then_normal (WC.sub (fr' := [(2, _)]) ?_ ⟨rfl, trivial⟩))
     refine WC.ret (WE.block_ret (WE.then_ret (WE.block_ret (WE.then_ret ?_))))
     refine WE.lose hb0_0 ?_
     refine WE.add0 ?_
     refine WE.endA0 (.inl rfl) (res1 Tryz.results10 rfl) ?_ fresh0
     exact vokInt32Value q2 q8
    ·
     try simp only [Z1, Z2, Z3, Z4, Z5, Z6, Z7, Z8, Z9, Z0] at q8
     refine WC.skip (WE.block_normal (WE.then_normal (WC.sub (fr' := [(1, _)]) ?_ ⟨rfl, trivial⟩)))
     refine WC.seq ?_
     have hw8 := hwd q2
     refine WC.region ?_
     refine WL.q (oq_fieldAddr fld23_2 rfl) rfl rfl rfl ?_
     refine WL.q (oq_load flat2 rfl (.head _) (List.mem_singleton.2 rfl) rfl) rfl rfl rfl ?_
     refine WL.q (oq_makeI conc64 rfl) rfl rfl rfl ?_
     refine WL.q (oq_assign rfl) rfl rfl rfl ?_
     refine WL.nil (WE.then_normal (WC.sub (fr' := [(2, _)]) ?_ ⟨rfl, trivial⟩))
     refine WC.ret (WE.block_ret (WE.then_ret ?_))
     refine WE.lose hb0_0 ?_
     refine WE.add0 ?_
     refine WE.endA0 (.inl rfl) (res1 Tryz.results10 rfl) ?_ fresh0
     exact vokInt64Value q2 (by omega)
 ·
  try simp only [Z1, Z2, Z3, Z4, Z5, Z6, Z7, Z8, Z9, Z0] at q2
  refine WC.seq (WC.region ?_)
  refine WL.q (oq_eql rfl rfl) rfl rfl rfl ?_
  refine WL.q (oq_assign rfl) rfl rfl rfl ?_
  refine WL.nil (WE.then_normal (WC.sub (fr' := [(1, _), (5, _), (31, _)]) ?_ ⟨rfl, rfl, rfl, trivial⟩))
  refine WC.cond rfl (fun q11 => ?_) (fun q11 => ?_)
  ·
   try simp only [Z1, Z2, Z3, Z4, Z5, Z6, Z7, Z8, Z9, Z0] at q11
   refine WC.seq (WC.region ?_)
   refine WL.q (oq_fieldAddr fld23_3 rfl) rfl rfl rfl ?_
   refine WL.q (oq_load flat9 rfl (.head _) (List.mem_singleton.2 rfl) rfl) rfl rfl rfl ?_
   refine WL.toBytes Tryz.underlying9 Tryz.underlying65 Tryz.underlying5 rfl (by unfold maxLen; (first | omega | (simp only [List.length_cons, List.length_nil, List.length_append, List.length_drop, List.length_take]; omega))) rfl rfl fun v12_2 A12_2 hr12_2 hA12_2 => ?_
   refine WL.q (oq_makeI conc65 rfl) rfl rfl rfl ?_
   refine WL.q (oq_assign rfl) rfl rfl rfl ?_
   refine WL.nil (WE.then_normal (WC.sub (fr' := [(2, _)]) ?_ ⟨rfl, trivial⟩))
   refine WC.ret (WE.block_ret (WE.then_ret ?_))
   refine WE.f1 ?_
   refine WE.lose hb0_0 ?_
   refine WE.endA0 (.inl rfl) (res1 Tryz.results10 rfl) ?_ (hA12_2)
   exact vokBytes q11 hr12_2 hl
  ·
   try simp only [Z1, Z2, Z3, Z4, Z5, Z6, Z7, Z8, Z9, Z0] at q11
   refine WC.seq (WC.region ?_)
   refine WL.q (oq_eql rfl rfl) rfl rfl rfl ?_
   refine WL.q (oq_assign rfl) rfl rfl rfl ?_
   refine WL.nil (WE.then_normal (WC.sub (fr' := [(1, _), (5, _), (37, _)]) ?_ ⟨rfl, rfl, rfl, trivial⟩))
   refine WC.cond rfl (fun q13 => ?_) (fun q13 => ?_)
   ·
    try simp only [Z1, Z2, Z3, Z4, Z5, Z6, Z7, Z8, Z9, Z0] at q13
    refine WC.seq (WC.region ?_)
    refine WL.q (oq_fieldAddr fld23_3 rfl) rfl rfl rfl ?_
    refine WL.q (oq_load flat9 rfl (.head _) (List.mem_singleton.2 rfl) rfl) rfl rfl rfl ?_
    refine WL.q (oq_makeI conc66 rfl) rfl rfl rfl ?_
    refine WL.q (oq_assign rfl) rfl rfl rfl ?_
    refine WL.nil (WE.then_normal (WC.sub (fr' := [(2, _)]) ?_ ⟨rfl, trivial⟩))
    refine WC.ret (WE.block_ret (WE.then_ret ?_))
    refine WE.lose hb0_0 ?_
    refine WE.add0 ?_
    refine WE.endA0 (.inl rfl) (res1 Tryz.results10 rfl) ?_ fresh0
    exact vokString q13 hl
   ·
    try simp only [Z1, Z2, Z3, Z4, Z5, Z6, Z7, Z8, Z9, Z0] at q13
    refine WC.seq (WC.region ?_)
    refine WL.q (oq_eql rfl rfl) rfl rfl rfl ?_
    refine WL.q (oq_assign rfl) rfl rfl rfl ?_
    refine WL.nil (WE.then_normal (WC.sub (fr' := [(1, _), (5, _), (42, _)]) ?_ ⟨rfl, rfl, rfl, trivial⟩))
    refine WC.cond rfl (fun q15 => ?_) (fun q15 => ?_)
    ·
     try simp only [Z1, Z2, Z3, Z4, Z5, Z6, Z7, Z8, Z9, Z0] at q15
     refine WC.seq ?_
     have htm2 := htm q15
     refine WC.region ?_
     refine WL.q (oq_fieldAddr fld23_2 rfl) rfl rfl rfl ?_
     refine WL.q (oq_load flat2 rfl (.head _) (List.mem_singleton.2 rfl) rfl) rfl rfl rfl ?_
     refine WL.qc (oq_call (unixMilli h.int htm2.1 htm2.2) call19 rfl) rfl rfl rfl ?_
     refine WL.q (oq_makeI conc68 rfl) rfl rfl rfl ?_
     refine WL.q (oq_assign rfl) rfl rfl rfl ?_
     refine WL.nil (WE.then_normal (WC.sub (fr' := [(2, _)]) ?_ ⟨rfl, trivial⟩))
     refine WC.ret (WE.block_ret (WE.then_ret ?_))
     refine WE.lose hb0_0 ?_
     refine WE.add0 ?_
     refine WE.endA0 (.inl rfl) (res1 Tryz.results10 rfl) ?_ fresh0
     exact vokTime q15 htm2.1 htm2.2
    ·
     try simp only [Z1, Z2, Z3, Z4, Z5, Z6, Z7, Z8, Z9, Z0] at q15
     refine WC.seq (WC.region ?_)
     refine WL.q (oq_eql rfl rfl) rfl rfl rfl ?_
     refine WL.q (oq_assign rfl) rfl rfl rfl ?_
     refine WL.nil (WE.then_normal (WC.sub (fr' := [(1, _), (48, _)]) ?_ ⟨rfl, rfl, trivial⟩))
     refine WC.cond rfl (fun q17 => ?_) (fun q17 => ?_)
     ·
      try simp only [Z1, Z2, Z3, Z4, Z5, Z6, Z7, Z8, Z9, Z0] at q17
      refine WC.seq ?_
      have hul := hun q17
      refine WC.region ?_
      refine WL.alloc ty72 rfl rfl fun ub hub => ?_
      refine WL.asB (List.replicate 16 0) rfl ?_
      refine WL.nil (WE.then_normal (WC.sub (fr' := [(1, _), (3, _)]) ?_ ⟨rfl, rfl, trivial⟩))
      refine WC.seq ?_
      refine WC.tailM (pl := []) (ql := [_, _, _]) (tl := [_]) [] [0, 1, 2] 3 [] (by kernel_rfl) (by kernel_rfl) (by kernel_rfl) (by kernel_rfl) (by kernel_rfl) (by kernel_rfl) (by decide) rfl rfl rfl (by decide) (by repeat (first | with_reducible exact QOk.body | with_reducible apply QOk.then | with_reducible apply QOk.block | exact QOk.body | apply QOk.then | apply QOk.block)) ?_
      refine WM.nil ?_
      refine WY.q (oq_sliceArr Tryz.underlying72 ty5 rfl rfl rfl (by (first | (simp only [List.length_replicate]; omega) | omega)) (by (first | (simp only [List.length_replicate]; omega) | omega))) rfl rfl rfl ?_
      refine WY.q (oq_fieldAddr fld23_3 rfl) rfl rfl rfl ?_
      refine WY.q (oq_load flat9 rfl (.tail _ (.head _)) (List.mem_singleton.2 rfl) rfl) rfl rfl rfl ?_
      refine WY.nil ?_
      refine WL.copyBS Tryz.underlying31 ty5 rfl rfl (by (first | (simp only [List.length_replicate]; omega) | omega)) rfl rfl ?_
      refine WL.nil (WE.then_normal (WC.sub (fr' := [(3, _)]) ?_ ⟨rfl, trivial⟩))
      refine WC.seq ?_
      have hcp : List.take (0 + 0) (List.replicate 16 0) ++ List.take (min h.text.length (16 - 0)) h.text ++ List.drop (0 + 0 + min h.text.length (16 - 0)) (List.replicate 16 0) = h.text := by
       rw [hul, List.take_of_length_le (l := h.text) (by omega)]; simp
      rw [hcp]
      refine WC.region ?_
      refine WL.q (oq_loadArr agg72 ty72 (hul) rfl (.head _)) rfl rfl rfl ?_
      refine WL.q (oq_makeI conc72 rfl) rfl rfl rfl ?_
      refine WL.q (oq_assign rfl) rfl rfl rfl ?_
      refine WL.nil (WE.then_normal (WC.sub (fr' := [(2, _)]) ?_ ⟨rfl, trivial⟩))
      refine WC.ret (WE.block_ret (WE.then_ret ?_))
      refine WE.lose hub ?_
      refine WE.lose hb0_0 ?_
      refine WE.add0 ?_
      refine WE.endA0 (.inl rfl) (res1 Tryz.results10 rfl) ?_ fresh0
      exact vokUUID q17 hul
     ·
      try simp only [Z1, Z2, Z3, Z4, Z5, Z6, Z7, Z8, Z9, Z0] at q17
      refine WC.skip (WE.block_normal (WE.then_normal (WC.sub (fr' := [(1, _)]) ?_ ⟨rfl, trivial⟩)))
      refine WC.seq (WC.region ?_)
      refine WL.q (oq_fieldAddr fld23_2 rfl) rfl rfl rfl ?_
      refine WL.q (oq_load flat2 rfl (.head _) (List.mem_singleton.2 rfl) rfl) rfl rfl rfl ?_
      refine WL.q (oq_neq rfl rfl) rfl rfl rfl ?_
      refine WL.q (oq_makeI conc73 rfl) rfl rfl rfl ?_
      refine WL.q (oq_assign rfl) rfl rfl rfl ?_
      refine WL.nil (WE.then_normal (WC.sub (fr' := [(2, _)]) ?_ ⟨rfl, trivial⟩))
      refine WC.ret ?_
      refine WE.lose hb0_0 ?_
      refine WE.add0 ?_
      refine WE.endA0 (.inl rfl) (res1 Tryz.results10 rfl) ?_ fresh0
      exact vokBool (by omega)
end EI
end Go.Proofs.YtinkaobaboffcaaGreatDoor
