/- Walks of a ring of bytes. -/
import Derived.Test.YtcgpajknehhdgaaDoorVH
import Derived.Test.YtcgpajknehhdgaaDoorVI
import Derived.Test.YtcgpajknehhdgaaDoorVK
import Derived.Test.YtcgpajknehhdgaaDoorProg
namespace Go.Proofs.YtcgpajknehhdgaaDoor
open Go Go.RowKit V
set_option linter.unusedSimpArgs false
set_option linter.unusedVariables false
set_option maxRecDepth 10000
namespace K9
theorem flat3 : Flat Tryd.prog 3 := ⟨_, Tryd.underlying3, by simp⟩
theorem flat5 : Flat Tryd.prog 5 := ⟨_, Tryd.underlying5, by simp⟩
theorem flat22 : Flat Tryd.prog 22 := ⟨_, Tryd.underlying22, by simp⟩
theorem flat53 : Flat Tryd.prog 53 := ⟨_, Tryd.underlying53, by simp⟩
theorem ty3 : Ty Tryd.prog 3 (.int .i64 0) 1 8 := ty_of (by kernel_rfl)
theorem ty5 : Ty Tryd.prog 5 (.int .u8 0) 1 1 := ty_of (by kernel_rfl)
theorem ty22 : Ty Tryd.prog 22 (.slice none 0 0) 1 24 := ty_of (by kernel_rfl)
theorem ty92 : Ty Tryd.prog 92 (.agg #[(.slice none 0 0), (.int .i64 0), (.int .i64 0), (.int .i64 0)]) 4 48 := ty_of (by kernel_rfl)
theorem str92 : Str Tryd.prog 92 #[(0, 1), (1, 1), (2, 1), (3, 1)] := ⟨_, Tryd.underlying92, fun w => by kernel_rfl⟩
theorem fld92_0 : Fld Tryd.prog 92 0 0 22 := fld_of Tryd.underlying92 rfl rfl rfl ty22 (by decide)
theorem fld92_1 : Fld Tryd.prog 92 1 1 3 := fld_of Tryd.underlying92 rfl rfl rfl ty3 (by decide)
theorem fld92_2 : Fld Tryd.prog 92 2 2 3 := fld_of Tryd.underlying92 rfl rfl rfl ty3 (by decide)
theorem fld92_3 : Fld Tryd.prog 92 3 3 3 := fld_of Tryd.underlying92 rfl rfl rfl ty3 (by decide)

/-! ### Words: a ring of bytes -/
/-- a place in a ring of n places -/
def wr (n a : Nat) : Nat := if n ≤ a then a - n else a
theorem wr_lt {n a : Nat} (h : a < n) : wr n a = a := if_neg (by omega)
theorem wr_ge {n a : Nat} (h : n ≤ a) : wr n a = a - n := if_pos h
structure Ring (l : List UInt8) (st en : Nat) (h : List UInt8) : Prop where
  n0 : 0 < l.length
  s0 : st ≤ l.length
  e0 : en ≤ l.length
  h0 : h.length ≤ l.length
  e1 : wr l.length en = wr l.length (wr l.length st + h.length)
  at_ : ∀ j, j < h.length → l.getD (wr l.length (wr l.length st + j)) 0 = h.getD j 0
theorem Ring.new {l : List UInt8} (h : 0 < l.length) : Ring l 0 0 [] := ⟨h, by omega, by omega, by simp, by simp [wr], fun j hj => by simp at hj⟩
theorem getD_drop1 (h : List UInt8) (j : Nat) : (h.drop 1).getD j 0 = h.getD (j + 1) 0 := by
  rw [List.getD_eq_getElem?_getD, List.getD_eq_getElem?_getD, List.getElem?_drop, Nat.add_comm]
/-- a byte is taken -/
theorem Ring.take {l : List UInt8} {st en : Nat} {h : List UInt8} (r : Ring l st en h) (hh : 0 < h.length) : l.getD (wr l.length st) 0 = h.getD 0 0 ∧ wr l.length st < l.length ∧ Ring l (wr l.length st + 1) en (h.drop 1) := by
  obtain ⟨n0, s0, e0, h0, e1, a⟩ := r
  have hw : wr l.length st < l.length := by unfold wr; split <;> omega
  have hb := a 0 hh
  rw [Nat.add_zero, wr_lt hw] at hb
  refine ⟨hb, hw, n0, by omega, e0, by rw [List.length_drop]; omega, ?_, fun j hj => ?_⟩
  · rw [e1, List.length_drop]
    generalize wr l.length st = s at *
    unfold wr; repeat' split
    all_goals omega
  · rw [List.length_drop] at hj
    rw [getD_drop1, ← a (j + 1) (by omega)]
    congr 1
    generalize wr l.length st = s at *
    unfold wr; repeat' split
    all_goals omega
def push (n : Nat) (h : List UInt8) (c : UInt8) : List UInt8 := (if h.length = n then h.drop 1 else h) ++ [c]
theorem push_len (n : Nat) (h : List UInt8) (c : UInt8) (hn : 0 < n) (hh : h.length ≤ n) : (push n h c).length ≤ n := by
  unfold push; split <;> simp <;> omega
/-- a ring that is full loses its first byte -/
theorem Ring.full {l : List UInt8} {st en : Nat} {h : List UInt8} (r : Ring l st en h) (hh : h.length = l.length) : Ring l (wr l.length st + 1) en (h.drop 1) := (r.take (by have := r.n0; omega)).2.2
/-- a byte is put in -/
theorem Ring.put {l : List UInt8} {st en : Nat} {h : List UInt8} (r : Ring l st en h) (hh : h.length < l.length) (c : UInt8) : Ring (l.set (wr l.length en) c) st (wr l.length en + 1) (h ++ [c]) := by
  obtain ⟨n0, s0, e0, h0, e1, a⟩ := r
  have hw : wr l.length en < l.length := by unfold wr; split <;> omega
  have hs : wr l.length st < l.length := by unfold wr; split <;> omega
  refine ⟨by rw [List.length_set]; exact n0, by rw [List.length_set]; exact s0, by rw [List.length_set]; omega, by rw [List.length_set, List.length_append]; exact hh, ?_, fun j hj => ?_⟩
  · rw [List.length_set, List.length_append, e1]
    show _ = wr l.length (wr l.length st + (h.length + 1))
    generalize wr l.length st = s at *
    unfold wr; repeat' split
    all_goals omega
  · rw [List.length_set]
    rw [List.length_append] at hj
    have hj2 : j < h.length + 1 := hj
    by_cases hjh : j = h.length
    · subst hjh
      rw [← e1, List.getD_eq_getElem?_getD, List.getElem?_set_self hw, List.getD_eq_getElem?_getD, List.getElem?_append_right (Nat.le_refl _), Nat.sub_self]; rfl
    · have hne : wr l.length en ≠ wr l.length (wr l.length st + j) := by
        rw [e1]
        generalize wr l.length st = s at *
        unfold wr; repeat' split
        all_goals omega
      rw [List.getD_eq_getElem?_getD, List.getElem?_set_ne hne, ← List.getD_eq_getElem?_getD, a j (by omega), List.getD_eq_getElem?_getD, List.getD_eq_getElem?_getD, List.getElem?_append_left (by omega)]
theorem wr_en {n a : Nat} (h : a ≤ n) (n0 : 0 < n) : wr n a = if a = n then 0 else a := by unfold wr; split <;> split <;> omega
/-- places that stand for the same -/
theorem Ring.en0 {l : List UInt8} {st en : Nat} {h : List UInt8} (r : Ring l st en h) (he : en = l.length) : Ring l st 0 h :=
  ⟨r.n0, r.s0, by omega, r.h0, by rw [← r.e1, he, wr_lt r.n0, wr_ge (Nat.le_refl _), Nat.sub_self], r.at_⟩
theorem Ring.st0 {l : List UInt8} {st en : Nat} {h : List UInt8} (r : Ring l st en h) (he : st = l.length) : Ring l 0 en h := by
  have e : wr l.length 0 = wr l.length st := by rw [he, wr_lt r.n0, wr_ge (Nat.le_refl _), Nat.sub_self]
  exact ⟨r.n0, by omega, r.e0, r.h0, by rw [e]; exact r.e1, by rw [e]; exact r.at_⟩
/-- the last n bytes -/
def lastn (n : Nat) (x : List UInt8) : List UInt8 := x.drop (x.length - n)
theorem lastn_len (n : Nat) (x : List UInt8) : (lastn n x).length ≤ n := by unfold lastn; rw [List.length_drop]; omega
theorem lastn_app (n : Nat) (x t : List UInt8) : lastn n (lastn n x ++ t) = lastn n (x ++ t) := by
  unfold lastn
  rw [← List.drop_append_of_le_length (by omega), List.drop_drop]
  congr 1
  simp; omega
theorem lastn_of {n : Nat} {x : List UInt8} (h : x.length ≤ n) : lastn n x = x := by
  unfold lastn; rw [show x.length - n = 0 by omega]; rfl
theorem push_last {n : Nat} {h : List UInt8} (c : UInt8) (hn : 0 < n) (hh : h.length ≤ n) : push n h c = lastn n (h ++ [c]) := by
  unfold push lastn
  split
  · rename_i e
    rw [List.drop_append_of_le_length (by simp; omega)]
    congr 2; simp; omega
  · rw [show (h ++ [c]).length - n = 0 by simp; omega]; rfl
theorem last_snoc {n : Nat} {h t : List UInt8} {i : Nat} (hn : 0 < n) (hi : i < t.length) : push n (lastn n (h ++ t.take i)) (t.getD i 0) = lastn n (h ++ t.take (i + 1)) := by
  rw [push_last _ hn (lastn_len _ _), lastn_app, List.append_assoc, List.take_succ_eq_append_getElem hi, List.getD_eq_getElem?_getD, List.getElem?_eq_getElem hi]; rfl
/-- a list with other bytes from a place on -/
def putB (L : List UInt8) (off : Nat) (xs : List UInt8) : List UInt8 := L.take off ++ xs ++ L.drop (off + xs.length)
theorem putB_nil (L : List UInt8) (off : Nat) : putB L off [] = L := by unfold putB; simp
theorem putB_len (L : List UInt8) (off : Nat) (xs : List UInt8) (h : off + xs.length ≤ L.length) : (putB L off xs).length = L.length := by unfold putB; simp; omega
theorem putB_set (L h : List UInt8) (off j : Nat) (hj : j < h.length) (ho : off + j < L.length) : (putB L off (h.take j)).set (off + j) (h.getD j 0) = putB L off (h.take (j + 1)) := by
  have e1 : (L.take off ++ h.take j).length = off + j := by simp; omega
  have e2 : (h.take j).length = j := by rw [List.length_take]; omega
  have e3 : (h.take (j + 1)).length = j + 1 := by rw [List.length_take]; omega
  unfold putB
  rw [List.set_append, if_neg (by omega), e1, Nat.sub_self, e2, e3, List.drop_eq_getElem_cons (by omega), List.set_cons_zero, List.take_succ_eq_append_getElem hj, List.getD_eq_getElem?_getD, List.getElem?_eq_getElem hj, Option.getD_some]
  simp only [List.append_assoc, List.cons_append, List.nil_append]; rfl
/-- the end of a file, or nothing -/
def eofv (k : TypeId) (p : Addr) : Bool → Value
  | true => .iface k (.pointer (some p))
  | false => .nilIface
theorem eofv_or (k : TypeId) (p : Addr) (b : Bool) : eofv k p b = .nilIface ∨ ∃ k' u, eofv k p b = .iface k' u := by cases b; exact .inl rfl; exact .inr ⟨_, _, rfl⟩
theorem eofv_nil (k : TypeId) (p : Addr) (b : Bool) : nilI (eofv k p b) = !b := by cases b <;> rfl
/-- what the package's variable holds that tells the end of a file -/
structure Eof (A : Hp) (kE : TypeId) (pE : Addr) : Prop where
  comp : ∃ e, Comp Tryd.prog kE e
  eof : ∃ t f, (0, .cells #[.iface kE (.pointer (some pE))] t f) ∈ A
/-- (*given.example/pub-tinwright/pub/smithy/io.RingBuffer).Write -/
theorem rwrite (base rb sb n : Nat) (l : List UInt8) (st en : Nat) (h : List UInt8) (hln : l.length = n) (hn : n ≤ 1000000) (hr : Ring l st en h) (A : Hp) (v : Value) (t : List UInt8) (ht : RdS 1 v A t.length (bytesV t)) (htl : t.length ≤ 1000000) : FnW Tryd.prog 45 [Pt rb 0, v] base [[(rb, .cells #[Sl sb 0 n n, I (st : Int), I (en : Int), I (h.length : Int)] 92 (0, 0))], Bf sb 5 l, A] (fun w Hs => ∃ st2 en2 l2, w = .tuple #[I (t.length : Int), .nilIface] ∧ Hs = [[(rb, .cells #[Sl sb 0 n n, I ((st2 : Nat) : Int), I ((en2 : Nat) : Int), I ((lastn n (h ++ t)).length : Int)] 92 (0, 0))], Bf sb 5 l2, A] ∧ l2.length = n ∧ Ring l2 st2 en2 (lastn n (h ++ t))) := by
  have hh0 := hr.h0
  refine FnW.enter (n := 91) Tryd.func45 rfl rfl fun w0 R0 hbase => ?_
  subst hbase
  show WC _ _ _ _ _ _ _ ([[(rb, .cells #[Sl sb 0 n n, I (st : Int), I (en : Int), I (h.length : Int)] 92 (0, 0))], Bf sb 5 l, A, R0])
  refine WC.sub (fr' := [(0, _), (1, _)]) ?_ ⟨rfl, rfl, trivial⟩
  refine WC.seq ?_
  refine WC.region ?_
  refine WL.q (oq_assign rfl) rfl rfl rfl ?_
  refine WL.q (oq_assign rfl) rfl rfl rfl ?_
  refine WL.nil ?_
  refine WE.then_normal ?_
  refine WC.sub (fr' := [(0, _), (1, _)]) ?_ ⟨rfl, rfl, trivial⟩
  refine WC.seq ?_
  refine WC.seq ?_
  refine WC.region ?_
  refine WL.q (oq_move rfl) rfl rfl rfl ?_
  refine WL.q (oq_len_rd ht Tryd.underlying22 rfl) rfl rfl rfl ?_
  refine WL.q (oq_move rfl) rfl rfl rfl ?_
  refine WL.nil ?_
  refine WE.then_normal ?_
  refine WC.sub (fr' := [(0, _), (1, _), (8, _), (9, _), (10, _)]) ?_ ⟨rfl, rfl, rfl, rfl, rfl, trivial⟩
  refine WC.block ?_
  refine WC.loop (ι := Nat × Nat × Nat × Nat × (List UInt8)) (fun i_ => (fun (i : Nat) (s1 : Nat) (e1 : Nat) (k : Nat) (l1 : List UInt8) => [(0, Pt rb 0), (1, v), (8, v), (9, I (t.length : Int)), (10, I (i : Int))]) i_.1 i_.2.1 i_.2.2.1 i_.2.2.2.1 i_.2.2.2.2) (fun i_ => (fun (i : Nat) (s1 : Nat) (e1 : Nat) (k : Nat) (l1 : List UInt8) => [[(rb, .cells #[Sl sb 0 n n, I (s1 : Int), I (e1 : Int), I (k : Int)] 92 (0, 0))], Bf sb 5 l1, A, R0]) i_.1 i_.2.1 i_.2.2.1 i_.2.2.2.1 i_.2.2.2.2) (fun i_ => (fun (i : Nat) (s1 : Nat) (e1 : Nat) (k : Nat) (l1 : List UInt8) => i ≤ t.length ∧ l1.length = n ∧ k = (lastn n (h ++ t.take i)).length ∧ Ring l1 s1 e1 (lastn n (h ++ t.take i))) i_.1 i_.2.1 i_.2.2.1 i_.2.2.2.1 i_.2.2.2.2) (fun i_ => (fun (i : Nat) (s1 : Nat) (e1 : Nat) (k : Nat) (l1 : List UInt8) => t.length - i) i_.1 i_.2.1 i_.2.2.1 i_.2.2.2.1 i_.2.2.2.2) ((0, st, en, h.length, l)) ?_ ⟨rfl, rfl, rfl, rfl, rfl, trivial⟩ (List.Perm.refl _) ?_
  · try dsimp only
    exact ⟨by omega, hln, by rw [List.take_zero, List.append_nil, lastn_of (by omega)], by rw [List.take_zero, List.append_nil, lastn_of (by omega)]; exact hr⟩
  · rintro ⟨i, s1, e1, k, l1⟩ hp
    try dsimp only at hp
    obtain ⟨hi, hl1, hk, hr1⟩ := hp
    show WC _ _ _ _ _ _ ([(0, Pt rb 0), (1, v), (8, v), (9, I (t.length : Int)), (10, I (i : Int))]) ([[(rb, .cells #[Sl sb 0 n n, I (s1 : Int), I (e1 : Int), I (k : Int)] 92 (0, 0))], Bf sb 5 l1, A, R0])
    refine WC.seq ?_
    refine WC.region ?_
    refine WL.q (oq_lss rfl rfl) rfl rfl rfl ?_
    refine WL.nil ?_
    refine WE.then_normal ?_
    refine WC.sub (fr' := [(0, _), (1, _), (8, _), (9, _), (10, _), (11, _)]) ?_ ⟨rfl, rfl, rfl, rfl, rfl, rfl, trivial⟩
    refine WC.seq ?_
    refine WC.cond rfl (fun q2 => ?_) (fun q2 => ?_)
    ·
      try simp only [Bool.not_eq_eq_eq_not, Bool.not_true, Bool.not_false, decide_eq_true_eq, decide_eq_false_iff_not, Int.not_lt, Int.not_le, ne_eq, Decidable.not_not, ← List.length_eq_zero_iff] at q2
      refine WC.skip ?_
      refine WE.then_normal ?_
      refine WC.sub (fr' := [(0, _), (1, _), (8, _), (9, _), (10, _)]) ?_ ⟨rfl, rfl, rfl, rfl, rfl, trivial⟩
      refine WC.seq ?_
      refine WC.block ?_
      refine WC.seq ?_
      refine WC.region ?_
      refine WL.q (oq_ixaddr ht Tryd.underlying22 ty5 rfl rfl (by (first | omega | (simp only [List.length_cons, List.length_nil, List.length_append, List.length_drop, List.length_take]; omega)))) rfl rfl rfl ?_
      refine WL.load_byte ht (.tail _ (.tail _ (.head _))) flat5 rfl (by (first | omega | (simp only [List.length_cons, List.length_nil, List.length_append, List.length_drop, List.length_take]; omega))) rfl rfl fun c3_1 hc3_1 hc3_1l hc3_1u => ?_
      refine WL.q (oq_assign rfl) rfl rfl rfl ?_
      refine WL.nil ?_
      refine WE.then_normal ?_
      refine WC.sub (fr' := [(0, _), (1, _), (7, _), (8, _), (9, _), (10, _)]) ?_ ⟨rfl, rfl, rfl, rfl, rfl, rfl, trivial⟩
      refine WC.cut (ι := Nat) (fun (e2 : Nat) => [(0, Pt rb 0), (1, v), (7, .int .u8 c3_1), (8, v), (9, I (t.length : Int)), (10, I (i : Int))]) (fun (e2 : Nat) => [[(rb, .cells #[Sl sb 0 n n, I (s1 : Int), I (e2 : Int), I (k : Int)] 92 (0, 0))], Bf sb 5 l1, A, R0]) (fun (e2 : Nat) => e2 < n ∧ Ring l1 s1 e2 (lastn n (h ++ t.take i))) ?_ ?_
      ·
        refine WC.seq ?_
        refine WC.quiet (by kernel_rfl) (by kernel_rfl) ?_
        refine WQ.q (oq_move rfl) rfl rfl rfl ?_
        refine WQ.q (oq_nilCheck rfl) rfl rfl rfl ?_
        refine WQ.q (oq_fieldAddr fld92_2 rfl) rfl rfl rfl ?_
        refine WQ.q (oq_load flat3 rfl (.head _) (List.mem_singleton.2 rfl) rfl) rfl rfl rfl ?_
        refine WQ.q (oq_move rfl) rfl rfl rfl ?_
        refine WQ.q (oq_nilCheck rfl) rfl rfl rfl ?_
        refine WQ.q (oq_fieldAddr fld92_0 rfl) rfl rfl rfl ?_
        refine WQ.q (oq_load flat22 rfl (.head _) (List.mem_singleton.2 rfl) rfl) rfl rfl rfl ?_
        refine WQ.q (oq_len_sl Tryd.underlying22 rfl) rfl rfl rfl ?_
        refine WQ.q (oq_eql rfl rfl) rfl rfl rfl ?_
        refine WQ.nil ?_
        refine WE.then_normal ?_
        refine WC.sub (fr' := [(0, _), (1, _), (7, _), (8, _), (9, _), (10, _), (23, _)]) ?_ ⟨rfl, rfl, rfl, rfl, rfl, rfl, rfl, trivial⟩
        refine WC.cond rfl (fun q4 => ?_) (fun q4 => ?_)
        ·
          try simp only [Bool.not_eq_eq_eq_not, Bool.not_true, Bool.not_false, decide_eq_true_eq, decide_eq_false_iff_not, Int.not_lt, Int.not_le, ne_eq, Decidable.not_not, ← List.length_eq_zero_iff] at q4
          refine WC.region ?_
          refine WL.q (oq_move rfl) rfl rfl rfl ?_
          refine WL.q (oq_nilCheck rfl) rfl rfl rfl ?_
          refine WL.q (oq_fieldAddr fld92_2 rfl) rfl rfl rfl ?_
          refine WL.store1 #[_, _, _, _] ty3 rfl rfl (by first | rfl | exact OwS.one one_) (Nat.lt_of_lt_of_le (Nat.lt_succ_self _) (Nat.le_of_ble_eq_true rfl)) rfl rfl ?_
          refine WL.nil ?_
          refine WE.meet 0 ?_ ⟨rfl, rfl, rfl, rfl, rfl, rfl, trivial⟩ (List.Perm.refl _)
          try dsimp only
          exact ⟨by have := hr1.n0; omega, hr1.en0 (by omega)⟩   -- meet 0
        ·
          try simp only [Bool.not_eq_eq_eq_not, Bool.not_true, Bool.not_false, decide_eq_true_eq, decide_eq_false_iff_not, Int.not_lt, Int.not_le, ne_eq, Decidable.not_not, ← List.length_eq_zero_iff] at q4
          refine WC.skip ?_
          refine WE.meet e1 ?_ ⟨rfl, rfl, rfl, rfl, rfl, rfl, trivial⟩ (List.Perm.refl _)
          try dsimp only
          exact ⟨by have := hr1.e0; omega, hr1⟩   -- meet 1
      · rintro e2 hp
        try dsimp only at hp
        obtain ⟨he2, hr2⟩ := hp
        show WC _ _ _ _ _ _ ([(0, Pt rb 0), (1, v), (7, .int .u8 c3_1), (8, v), (9, I (t.length : Int)), (10, I (i : Int))]) ([[(rb, .cells #[Sl sb 0 n n, I (s1 : Int), I (e2 : Int), I (k : Int)] 92 (0, 0))], Bf sb 5 l1, A, R0])
        refine WC.cut (ι := Nat) (fun (s2 : Nat) => [(0, Pt rb 0), (1, v), (7, .int .u8 c3_1), (8, v), (9, I (t.length : Int)), (10, I (i : Int))]) (fun (s2 : Nat) => [[(rb, .cells #[Sl sb 0 n n, I (s2 : Int), I (e2 : Int), I (k : Int)] 92 (0, 0))], Bf sb 5 l1, A, R0]) (fun (s2 : Nat) => s2 < n ∧ Ring l1 s2 e2 (lastn n (h ++ t.take i))) ?_ ?_
        ·
          refine WC.seq ?_
          refine WC.quiet (by kernel_rfl) (by kernel_rfl) ?_
          refine WQ.q (oq_move rfl) rfl rfl rfl ?_
          refine WQ.q (oq_nilCheck rfl) rfl rfl rfl ?_
          refine WQ.q (oq_fieldAddr fld92_1 rfl) rfl rfl rfl ?_
          refine WQ.q (oq_load flat3 rfl (.head _) (List.mem_singleton.2 rfl) rfl) rfl rfl rfl ?_
          refine WQ.q (oq_move rfl) rfl rfl rfl ?_
          refine WQ.q (oq_nilCheck rfl) rfl rfl rfl ?_
          refine WQ.q (oq_fieldAddr fld92_0 rfl) rfl rfl rfl ?_
          refine WQ.q (oq_load flat22 rfl (.head _) (List.mem_singleton.2 rfl) rfl) rfl rfl rfl ?_
          refine WQ.q (oq_len_sl Tryd.underlying22 rfl) rfl rfl rfl ?_
          refine WQ.q (oq_eql rfl rfl) rfl rfl rfl ?_
          refine WQ.nil ?_
          refine WE.then_normal ?_
          refine WC.sub (fr' := [(0, _), (1, _), (7, _), (8, _), (9, _), (10, _), (36, _)]) ?_ ⟨rfl, rfl, rfl, rfl, rfl, rfl, rfl, trivial⟩
          refine WC.cond rfl (fun q6 => ?_) (fun q6 => ?_)
          ·
            try simp only [Bool.not_eq_eq_eq_not, Bool.not_true, Bool.not_false, decide_eq_true_eq, decide_eq_false_iff_not, Int.not_lt, Int.not_le, ne_eq, Decidable.not_not, ← List.length_eq_zero_iff] at q6
            refine WC.region ?_
            refine WL.q (oq_move rfl) rfl rfl rfl ?_
            refine WL.q (oq_nilCheck rfl) rfl rfl rfl ?_
            refine WL.q (oq_fieldAddr fld92_1 rfl) rfl rfl rfl ?_
            refine WL.store1 #[_, _, _, _] ty3 rfl rfl (by first | rfl | exact OwS.one one_) (Nat.lt_of_lt_of_le (Nat.lt_succ_self _) (Nat.le_of_ble_eq_true rfl)) rfl rfl ?_
            refine WL.nil ?_
            refine WE.meet 0 ?_ ⟨rfl, rfl, rfl, rfl, rfl, rfl, trivial⟩ (List.Perm.refl _)
            try dsimp only
            exact ⟨by omega, hr2.st0 (by omega)⟩   -- meet 0
          ·
            try simp only [Bool.not_eq_eq_eq_not, Bool.not_true, Bool.not_false, decide_eq_true_eq, decide_eq_false_iff_not, Int.not_lt, Int.not_le, ne_eq, Decidable.not_not, ← List.length_eq_zero_iff] at q6
            refine WC.skip ?_
            refine WE.meet s1 ?_ ⟨rfl, rfl, rfl, rfl, rfl, rfl, trivial⟩ (List.Perm.refl _)
            try dsimp only
            exact ⟨by have := hr2.s0; omega, hr2⟩   -- meet 1
        · rintro s2 hp
          try dsimp only at hp
          obtain ⟨hs2, hr3⟩ := hp
          show WC _ _ _ _ _ _ ([(0, Pt rb 0), (1, v), (7, .int .u8 c3_1), (8, v), (9, I (t.length : Int)), (10, I (i : Int))]) ([[(rb, .cells #[Sl sb 0 n n, I (s2 : Int), I (e2 : Int), I (k : Int)] 92 (0, 0))], Bf sb 5 l1, A, R0])
          refine WC.cut (ι := Nat × Nat × (List UInt8)) (fun i_ => (fun (s3 : Nat) (k3 : Nat) (h3 : List UInt8) => [(0, Pt rb 0), (1, v), (7, .int .u8 c3_1), (8, v), (9, I (t.length : Int)), (10, I (i : Int))]) i_.1 i_.2.1 i_.2.2) (fun i_ => (fun (s3 : Nat) (k3 : Nat) (h3 : List UInt8) => [[(rb, .cells #[Sl sb 0 n n, I (s3 : Int), I (e2 : Int), I (k3 : Int)] 92 (0, 0))], Bf sb 5 l1, A, R0]) i_.1 i_.2.1 i_.2.2) (fun i_ => (fun (s3 : Nat) (k3 : Nat) (h3 : List UInt8) => s3 ≤ n ∧ k3 = h3.length ∧ k3 < n ∧ Ring l1 s3 e2 h3 ∧ h3 ++ [t.getD i 0] = lastn n (h ++ t.take (i + 1))) i_.1 i_.2.1 i_.2.2) ?_ ?_
          ·
            refine WC.seq ?_
            refine WC.quiet (by kernel_rfl) (by kernel_rfl) ?_
            refine WQ.q (oq_move rfl) rfl rfl rfl ?_
            refine WQ.q (oq_nilCheck rfl) rfl rfl rfl ?_
            refine WQ.q (oq_fieldAddr fld92_3 rfl) rfl rfl rfl ?_
            refine WQ.q (oq_load flat3 rfl (.head _) (List.mem_singleton.2 rfl) rfl) rfl rfl rfl ?_
            refine WQ.q (oq_move rfl) rfl rfl rfl ?_
            refine WQ.q (oq_nilCheck rfl) rfl rfl rfl ?_
            refine WQ.q (oq_fieldAddr fld92_0 rfl) rfl rfl rfl ?_
            refine WQ.q (oq_load flat22 rfl (.head _) (List.mem_singleton.2 rfl) rfl) rfl rfl rfl ?_
            refine WQ.q (oq_len_sl Tryd.underlying22 rfl) rfl rfl rfl ?_
            refine WQ.q (oq_eql rfl rfl) rfl rfl rfl ?_
            refine WQ.nil ?_
            refine WE.then_normal ?_
            refine WC.sub (fr' := [(0, _), (1, _), (7, _), (8, _), (9, _), (10, _), (49, _)]) ?_ ⟨rfl, rfl, rfl, rfl, rfl, rfl, rfl, trivial⟩
            refine WC.cond rfl (fun q8 => ?_) (fun q8 => ?_)
            ·
              try simp only [Bool.not_eq_eq_eq_not, Bool.not_true, Bool.not_false, decide_eq_true_eq, decide_eq_false_iff_not, Int.not_lt, Int.not_le, ne_eq, Decidable.not_not, ← List.length_eq_zero_iff] at q8
              refine WC.seq ?_
              refine WC.region ?_
              refine WL.q (oq_move rfl) rfl rfl rfl ?_
              refine WL.q (oq_nilCheck rfl) rfl rfl rfl ?_
              refine WL.q (oq_fieldAddr fld92_3 rfl) rfl rfl rfl ?_
              refine WL.q (oq_load flat3 rfl (.head _) (List.mem_singleton.2 rfl) rfl) rfl rfl rfl ?_
              refine WL.q (oq_sub rfl rfl (by rw [i64_lo, i64_hi]; (first | omega | (simp only [List.length_cons, List.length_nil, List.length_append, List.length_drop, List.length_take]; omega)))) rfl rfl rfl ?_
              refine WL.q (oq_nilCheck rfl) rfl rfl rfl ?_
              refine WL.q (oq_fieldAddr fld92_3 rfl) rfl rfl rfl ?_
              refine WL.store1 #[_, _, _, _] ty3 rfl rfl (by first | rfl | exact OwS.one one_) (Nat.lt_of_lt_of_le (Nat.lt_succ_self _) (Nat.le_of_ble_eq_true rfl)) rfl rfl ?_
              refine WL.nil ?_
              refine WE.then_normal ?_
              refine WC.sub (fr' := [(0, _), (1, _), (7, _), (8, _), (9, _), (10, _)]) ?_ ⟨rfl, rfl, rfl, rfl, rfl, rfl, trivial⟩
              refine WC.region ?_
              refine WL.q (oq_move rfl) rfl rfl rfl ?_
              refine WL.q (oq_nilCheck rfl) rfl rfl rfl ?_
              refine WL.q (oq_fieldAddr fld92_1 rfl) rfl rfl rfl ?_
              refine WL.q (oq_load flat3 rfl (.head _) (List.mem_singleton.2 rfl) rfl) rfl rfl rfl ?_
              refine WL.q (oq_add rfl rfl (by rw [i64_lo, i64_hi]; (first | omega | (simp only [List.length_cons, List.length_nil, List.length_append, List.length_drop, List.length_take]; omega)))) rfl rfl rfl ?_
              refine WL.q (oq_nilCheck rfl) rfl rfl rfl ?_
              refine WL.q (oq_fieldAddr fld92_1 rfl) rfl rfl rfl ?_
              refine WL.store1 #[_, _, _, _] ty3 rfl rfl (by first | rfl | exact OwS.one one_) (Nat.lt_of_lt_of_le (Nat.lt_succ_self _) (Nat.le_of_ble_eq_true rfl)) rfl rfl ?_
              refine WL.nil ?_
              have hps := last_snoc (n := n) (h := h) (t := t) (i := i) (by omega) (by omega)
              unfold push at hps
              rw [if_pos (by omega)] at hps
              have hfu := hr3.full (by omega)
              rw [wr_lt (by omega)] at hfu
              have hlk := lastn_len n (h ++ t.take i)
              rw [show ((k : Int) - 1) = ((k - 1 : Nat) : Int) by omega]
              refine WE.meet (s2 + 1, k - 1, (lastn n (h ++ t.take i)).drop 1) ?_ ⟨rfl, rfl, rfl, rfl, rfl, rfl, trivial⟩ (List.Perm.refl _)
              try dsimp only
              exact ⟨by omega, by rw [List.length_drop]; omega, by omega, hfu, hps⟩   -- meet 0
            ·
              try simp only [Bool.not_eq_eq_eq_not, Bool.not_true, Bool.not_false, decide_eq_true_eq, decide_eq_false_iff_not, Int.not_lt, Int.not_le, ne_eq, Decidable.not_not, ← List.length_eq_zero_iff] at q8
              refine WC.skip ?_
              have hps := last_snoc (n := n) (h := h) (t := t) (i := i) (by omega) (by omega)
              unfold push at hps
              rw [if_neg (by omega)] at hps
              have hlk := hr3.h0
              refine WE.meet (s2, k, lastn n (h ++ t.take i)) ?_ ⟨rfl, rfl, rfl, rfl, rfl, rfl, trivial⟩ (List.Perm.refl _)
              try dsimp only
              exact ⟨by omega, hk, by omega, hr3, hps⟩   -- meet 1
          · rintro ⟨s3, k3, h3⟩ hp
            try dsimp only at hp
            obtain ⟨hs3, hk3, hk3n, hr4, hh3⟩ := hp
            show WC _ _ _ _ _ _ ([(0, Pt rb 0), (1, v), (7, .int .u8 c3_1), (8, v), (9, I (t.length : Int)), (10, I (i : Int))]) ([[(rb, .cells #[Sl sb 0 n n, I (s3 : Int), I (e2 : Int), I (k3 : Int)] 92 (0, 0))], Bf sb 5 l1, A, R0])
            refine WC.seq ?_
            refine WC.tailM (pl := []) (ql := [_, _, _, _, _, _, _, _, _, _]) (tl := [_]) [] [0, 1, 2, 3, 4, 5, 6, 7, 8, 9] 10 [] (by kernel_rfl) (by kernel_rfl) (by kernel_rfl) (by kernel_rfl) (by kernel_rfl) (by kernel_rfl) (by decide) rfl rfl rfl (by decide) (by repeat (first | with_reducible exact QOk.body | with_reducible apply QOk.then | with_reducible apply QOk.block | exact QOk.body | apply QOk.then | apply QOk.block)) ?_
            refine WM.nil ?_
            refine WY.q (oq_move rfl) rfl rfl rfl ?_
            refine WY.q (oq_nilCheck rfl) rfl rfl rfl ?_
            refine WY.q (oq_fieldAddr fld92_0 rfl) rfl rfl rfl ?_
            refine WY.q (oq_load flat22 rfl (.head _) (List.mem_singleton.2 rfl) rfl) rfl rfl rfl ?_
            refine WY.q (oq_move rfl) rfl rfl rfl ?_
            refine WY.q (oq_nilCheck rfl) rfl rfl rfl ?_
            refine WY.q (oq_fieldAddr fld92_2 rfl) rfl rfl rfl ?_
            refine WY.q (oq_load flat3 rfl (.head _) (List.mem_singleton.2 rfl) rfl) rfl rfl rfl ?_
            refine WY.q (oq_move rfl) rfl rfl rfl ?_
            refine WY.q (oq_ixSl (i := e2) Tryd.underlying22 ty5 rfl rfl (by omega)) rfl rfl rfl ?_
            refine WY.nil ?_
            refine WL.f1 ?_
            refine WL.storeB ty5 rfl rfl (by omega) (by omega) rfl ?_
            refine WL.nil ?_
            refine WE.then_normal ?_
            refine WC.sub (fr' := [(0, _), (1, _), (8, _), (9, _), (10, _)]) ?_ ⟨rfl, rfl, rfl, rfl, rfl, trivial⟩
            refine WC.seq ?_
            refine WC.region ?_
            refine WL.q (oq_move rfl) rfl rfl rfl ?_
            refine WL.q (oq_nilCheck rfl) rfl rfl rfl ?_
            refine WL.q (oq_fieldAddr fld92_2 rfl) rfl rfl rfl ?_
            refine WL.q (oq_load flat3 rfl (.tail _ (.head _)) (List.mem_singleton.2 rfl) rfl) rfl rfl rfl ?_
            refine WL.q (oq_add rfl rfl (by rw [i64_lo, i64_hi]; (first | omega | (simp only [List.length_cons, List.length_nil, List.length_append, List.length_drop, List.length_take]; omega)))) rfl rfl rfl ?_
            refine WL.q (oq_nilCheck rfl) rfl rfl rfl ?_
            refine WL.q (oq_fieldAddr fld92_2 rfl) rfl rfl rfl ?_
            refine WL.f1 ?_
            refine WL.store1 #[_, _, _, _] ty3 rfl rfl (by first | rfl | exact OwS.one one_) (Nat.lt_of_lt_of_le (Nat.lt_succ_self _) (Nat.le_of_ble_eq_true rfl)) rfl rfl ?_
            refine WL.nil ?_
            refine WE.then_normal ?_
            refine WC.sub (fr' := [(0, _), (1, _), (8, _), (9, _), (10, _)]) ?_ ⟨rfl, rfl, rfl, rfl, rfl, trivial⟩
            refine WC.region ?_
            refine WL.q (oq_move rfl) rfl rfl rfl ?_
            refine WL.q (oq_nilCheck rfl) rfl rfl rfl ?_
            refine WL.q (oq_fieldAddr fld92_3 rfl) rfl rfl rfl ?_
            refine WL.q (oq_load flat3 rfl (.head _) (List.mem_singleton.2 rfl) rfl) rfl rfl rfl ?_
            refine WL.q (oq_add rfl rfl (by rw [i64_lo, i64_hi]; (first | omega | (simp only [List.length_cons, List.length_nil, List.length_append, List.length_drop, List.length_take]; omega)))) rfl rfl rfl ?_
            refine WL.q (oq_nilCheck rfl) rfl rfl rfl ?_
            refine WL.q (oq_fieldAddr fld92_3 rfl) rfl rfl rfl ?_
            refine WL.store1 #[_, _, _, _] ty3 rfl rfl (by first | rfl | exact OwS.one one_) (Nat.lt_of_lt_of_le (Nat.lt_succ_self _) (Nat.le_of_ble_eq_true rfl)) rfl rfl ?_
            refine WL.nil ?_
            refine WE.block_normal ?_
            refine WE.then_normal ?_
            refine WC.sub (fr' := [(0, _), (1, _), (8, _), (9, _), (10, _)]) ?_ ⟨rfl, rfl, rfl, rfl, rfl, trivial⟩
            refine WC.region ?_
            refine WL.q (oq_add rfl rfl (by rw [i64_lo, i64_hi]; (first | omega | (simp only [List.length_cons, List.length_nil, List.length_append, List.length_drop, List.length_take]; omega)))) rfl rfl rfl ?_
            refine WL.q (oq_move rfl) rfl rfl rfl ?_
            refine WL.nil ?_
            refine WE.again (i + 1, s3, e2 + 1, k3 + 1, _) ?_ ?_ ⟨rfl, rfl, rfl, rfl, rfl, trivial⟩ (List.Perm.refl _)
            · try dsimp only   -- again 0
              have hpu := hr4.put (by omega) (UInt8.ofNat (byteAt t (i : Int)).toNat)
              rw [wr_lt (by omega)] at hpu
              have hbt : UInt8.ofNat (byteAt t (i : Int)).toNat = t.getD i 0 := by show UInt8.ofNat (((t.getD i 0).toNat : Int)).toNat = _; simp
              rw [hbt, hh3] at hpu
              refine ⟨by omega, by rw [List.length_set]; exact hl1, by rw [← hh3, List.length_append, hk3]; rfl, ?_⟩
              rw [Nat.zero_add, hc3_1, hbt]
              exact hpu
            · (try dsimp only); omega
    ·
      try simp only [Bool.not_eq_eq_eq_not, Bool.not_true, Bool.not_false, decide_eq_true_eq, decide_eq_false_iff_not, Int.not_lt, Int.not_le, ne_eq, Decidable.not_not, ← List.length_eq_zero_iff] at q2
      refine WC.exit ?_
      refine WE.then_exit ?_
      refine WE.then_exit ?_
      refine WE.block_same ?_
      refine WE.then_normal ?_
      refine WC.sub (fr' := [(1, _)]) ?_ ⟨rfl, trivial⟩
      refine WC.seq ?_
      refine WC.region ?_
      refine WL.q (oq_move rfl) rfl rfl rfl ?_
      refine WL.q (oq_len_rd ht Tryd.underlying22 rfl) rfl rfl rfl ?_
      refine WL.q (oq_assign rfl) rfl rfl rfl ?_
      refine WL.q (oq_assign rfl) rfl rfl rfl ?_
      refine WL.nil ?_
      refine WE.then_normal ?_
      refine WC.sub (fr' := [(4, _), (5, _)]) ?_ ⟨rfl, rfl, trivial⟩
      refine WC.ret ?_
      refine WE.endW3 (.inl rfl) (res2 Tryd.results45 rfl rfl) ?_
      -- end 0
      have e : i = t.length := by omega
      rw [e, List.take_length] at hk hr1
      exact ⟨s1, e1, l1, rfl, by rw [hk], hl1, hr1⟩

/-- (*given.example/pub-tinwright/pub/smithy/io.RingBuffer).Read -/
theorem rread (base rb sb n : Nat) (l : List UInt8) (st en : Nat) (h : List UInt8) (hln : l.length = n) (hn : n ≤ 1000000) (hr : Ring l st en h) (pb off m c : Nat) (L : List UInt8) (hm : off + m ≤ L.length) (hmc : m ≤ c) (hmb : m ≤ 9223372036854775807) (A : Hp) (kE : TypeId) (pE : Addr) (hE : Eof A kE pE) : FnW Tryd.prog 44 [Pt rb 0, Sl pb off m c] base [[(rb, .cells #[Sl sb 0 n n, I (st : Int), I (en : Int), I (h.length : Int)] 92 (0, 0))], Bf sb 5 l, Bf pb 5 (putB L off ([])), A] (fun w Hs => ∃ st2 : Nat, w = .tuple #[I ((min m h.length : Nat) : Int), eofv kE pE (decide (h.length < m))] ∧ Hs = [[(rb, .cells #[Sl sb 0 n n, I (st2 : Int), I (en : Int), I ((h.length - min m h.length : Nat) : Int)] 92 (0, 0))], Bf sb 5 l, Bf pb 5 (putB L off (h.take (min m h.length))), A] ∧ Ring l st2 en (h.drop (min m h.length))) := by
  have hh0 := hr.h0
  obtain ⟨tE, fE, hEm⟩ := hE.eof
  refine FnW.enter (n := 64) Tryd.func44 rfl rfl fun w0 R0 hbase => ?_
  subst hbase
  show WC _ _ _ _ _ _ _ ([[(rb, .cells #[Sl sb 0 n n, I (st : Int), I (en : Int), I (h.length : Int)] 92 (0, 0))], Bf sb 5 l, Bf pb 5 (putB L off ([])), A, R0])
  refine WC.sub (fr' := [(0, _), (1, _)]) ?_ ⟨rfl, rfl, trivial⟩
  refine WC.seq ?_
  refine WC.region ?_
  refine WL.q (oq_assign rfl) rfl rfl rfl ?_
  refine WL.q (oq_assign rfl) rfl rfl rfl ?_
  refine WL.nil ?_
  refine WE.then_normal ?_
  refine WC.sub (fr' := [(0, _), (1, _)]) ?_ ⟨rfl, rfl, trivial⟩
  refine WC.seq ?_
  refine WC.region ?_
  refine WL.q (oq_assign rfl) rfl rfl rfl ?_
  refine WL.nil ?_
  refine WE.then_normal ?_
  refine WC.sub (fr' := [(0, _), (1, _), (6, _)]) ?_ ⟨rfl, rfl, rfl, trivial⟩
  refine WC.seq ?_
  refine WC.seq ?_
  refine WC.region ?_
  refine WL.q (oq_assign rfl) rfl rfl rfl ?_
  refine WL.nil ?_
  refine WE.then_normal ?_
  refine WC.sub (fr' := [(0, _), (1, _), (6, _), (7, _)]) ?_ ⟨rfl, rfl, rfl, rfl, trivial⟩
  refine WC.block ?_
  refine WC.loop (ι := Nat × Nat) (fun i_ => (fun (j : Nat) (s1 : Nat) => [(0, Pt rb 0), (1, Sl pb off m c), (6, I (j : Int)), (7, I (j : Int))]) i_.1 i_.2) (fun i_ => (fun (j : Nat) (s1 : Nat) => [[(rb, .cells #[Sl sb 0 n n, I (s1 : Int), I (en : Int), I ((h.length - j : Nat) : Int)] 92 (0, 0))], Bf sb 5 l, Bf pb 5 (putB L off (h.take j)), A, R0]) i_.1 i_.2) (fun i_ => (fun (j : Nat) (s1 : Nat) => j ≤ m ∧ j ≤ h.length ∧ Ring l s1 en (h.drop j)) i_.1 i_.2) (fun i_ => (fun (j : Nat) (s1 : Nat) => m - j) i_.1 i_.2) ((0, st)) ?_ ⟨rfl, rfl, rfl, rfl, trivial⟩ (List.Perm.refl _) ?_
  · try dsimp only
    exact ⟨by omega, by omega, hr⟩
  · rintro ⟨j, s1⟩ hp
    try dsimp only at hp
    obtain ⟨hj, hjh, hr1⟩ := hp
    show WC _ _ _ _ _ _ ([(0, Pt rb 0), (1, Sl pb off m c), (6, I (j : Int)), (7, I (j : Int))]) ([[(rb, .cells #[Sl sb 0 n n, I (s1 : Int), I (en : Int), I ((h.length - j : Nat) : Int)] 92 (0, 0))], Bf sb 5 l, Bf pb 5 (putB L off (h.take j)), A, R0])
    refine WC.seq ?_
    refine WC.seq ?_
    refine WC.region ?_
    refine WL.q (oq_move rfl) rfl rfl rfl ?_
    refine WL.q (oq_move rfl) rfl rfl rfl ?_
    refine WL.q (oq_len_sl Tryd.underlying22 rfl) rfl rfl rfl ?_
    refine WL.q (oq_lss rfl rfl) rfl rfl rfl ?_
    refine WL.nil ?_
    refine WE.then_normal ?_
    refine WC.sub (fr' := [(0, _), (1, _), (6, _), (7, _), (11, _)]) ?_ ⟨rfl, rfl, rfl, rfl, rfl, trivial⟩
    refine WC.cond rfl (fun q3 => ?_) (fun q3 => ?_)
    ·
      try simp only [Bool.not_eq_eq_eq_not, Bool.not_true, Bool.not_false, decide_eq_true_eq, decide_eq_false_iff_not, Int.not_lt, Int.not_le, ne_eq, Decidable.not_not, ← List.length_eq_zero_iff] at q3
      refine WC.skip ?_
      refine WE.then_normal ?_
      refine WC.sub (fr' := [(0, _), (1, _), (6, _), (7, _)]) ?_ ⟨rfl, rfl, rfl, rfl, trivial⟩
      refine WC.seq ?_
      refine WC.block ?_
      refine WC.seq ?_
      refine WC.seq ?_
      refine WC.region ?_
      refine WL.q (oq_move rfl) rfl rfl rfl ?_
      refine WL.q (oq_nilCheck rfl) rfl rfl rfl ?_
      refine WL.q (oq_fieldAddr fld92_3 rfl) rfl rfl rfl ?_
      refine WL.q (oq_load flat3 rfl (.head _) (List.mem_singleton.2 rfl) rfl) rfl rfl rfl ?_
      refine WL.q (oq_eql rfl rfl) rfl rfl rfl ?_
      refine WL.nil ?_
      refine WE.then_normal ?_
      refine WC.sub (fr' := [(0, _), (1, _), (6, _), (7, _), (18, _)]) ?_ ⟨rfl, rfl, rfl, rfl, rfl, trivial⟩
      refine WC.cond rfl (fun q5 => ?_) (fun q5 => ?_)
      ·
        try simp only [Bool.not_eq_eq_eq_not, Bool.not_true, Bool.not_false, decide_eq_true_eq, decide_eq_false_iff_not, Int.not_lt, Int.not_le, ne_eq, Decidable.not_not, ← List.length_eq_zero_iff] at q5
        refine WC.seq ?_
        refine WC.quiet (by kernel_rfl) (by kernel_rfl) ?_
        refine WQ.q (oq_move rfl) rfl rfl rfl ?_
        refine WQ.q (oq_load flat53 rfl (.tail _ (.tail _ (.tail _ (.head _)))) hEm rfl) rfl rfl rfl ?_
        refine WQ.q (oq_assign rfl) rfl rfl rfl ?_
        refine WQ.q (oq_assign rfl) rfl rfl rfl ?_
        refine WQ.nil ?_
        refine WE.then_normal ?_
        refine WC.sub (fr' := [(4, _), (5, _)]) ?_ ⟨rfl, rfl, trivial⟩
        refine WC.ret ?_
        refine WE.then_ret ?_
        refine WE.block_ret ?_
        refine WE.then_ret ?_
        refine WE.then_ret ?_
        refine WE.block_ret ?_
        refine WE.then_ret ?_
        refine WE.endW4 (.inl rfl) (res2 Tryd.results44 rfl rfl) ?_
        -- end 0
        have e : min m h.length = j := by omega
        rw [e, decide_eq_true (show h.length < m by omega)]
        exact ⟨s1, rfl, rfl, hr1⟩
      ·
        try simp only [Bool.not_eq_eq_eq_not, Bool.not_true, Bool.not_false, decide_eq_true_eq, decide_eq_false_iff_not, Int.not_lt, Int.not_le, ne_eq, Decidable.not_not, ← List.length_eq_zero_iff] at q5
        refine WC.skip ?_
        refine WE.then_normal ?_
        refine WC.sub (fr' := [(0, _), (1, _), (6, _), (7, _)]) ?_ ⟨rfl, rfl, rfl, rfl, trivial⟩
        refine WC.cut (ι := Nat) (fun (s2 : Nat) => [(0, Pt rb 0), (1, Sl pb off m c), (6, I (j : Int)), (7, I (j : Int))]) (fun (s2 : Nat) => [[(rb, .cells #[Sl sb 0 n n, I (s2 : Int), I (en : Int), I ((h.length - j : Nat) : Int)] 92 (0, 0))], Bf sb 5 l, Bf pb 5 (putB L off (h.take j)), A, R0]) (fun (s2 : Nat) => s2 < n ∧ Ring l s2 en (h.drop j)) ?_ ?_
        ·
          refine WC.seq ?_
          refine WC.quiet (by kernel_rfl) (by kernel_rfl) ?_
          refine WQ.q (oq_move rfl) rfl rfl rfl ?_
          refine WQ.q (oq_nilCheck rfl) rfl rfl rfl ?_
          refine WQ.q (oq_fieldAddr fld92_1 rfl) rfl rfl rfl ?_
          refine WQ.q (oq_load flat3 rfl (.head _) (List.mem_singleton.2 rfl) rfl) rfl rfl rfl ?_
          refine WQ.q (oq_move rfl) rfl rfl rfl ?_
          refine WQ.q (oq_nilCheck rfl) rfl rfl rfl ?_
          refine WQ.q (oq_fieldAddr fld92_0 rfl) rfl rfl rfl ?_
          refine WQ.q (oq_load flat22 rfl (.head _) (List.mem_singleton.2 rfl) rfl) rfl rfl rfl ?_
          refine WQ.q (oq_len_sl Tryd.underlying22 rfl) rfl rfl rfl ?_
          refine WQ.q (oq_eql rfl rfl) rfl rfl rfl ?_
          refine WQ.nil ?_
          refine WE.then_normal ?_
          refine WC.sub (fr' := [(0, _), (1, _), (6, _), (7, _), (30, _)]) ?_ ⟨rfl, rfl, rfl, rfl, rfl, trivial⟩
          refine WC.cond rfl (fun q7 => ?_) (fun q7 => ?_)
          ·
            try simp only [Bool.not_eq_eq_eq_not, Bool.not_true, Bool.not_false, decide_eq_true_eq, decide_eq_false_iff_not, Int.not_lt, Int.not_le, ne_eq, Decidable.not_not, ← List.length_eq_zero_iff] at q7
            refine WC.region ?_
            refine WL.q (oq_move rfl) rfl rfl rfl ?_
            refine WL.q (oq_nilCheck rfl) rfl rfl rfl ?_
            refine WL.q (oq_fieldAddr fld92_1 rfl) rfl rfl rfl ?_
            refine WL.store1 #[_, _, _, _] ty3 rfl rfl (by first | rfl | exact OwS.one one_) (Nat.lt_of_lt_of_le (Nat.lt_succ_self _) (Nat.le_of_ble_eq_true rfl)) rfl rfl ?_
            refine WL.nil ?_
            refine WE.meet 0 ?_ ⟨rfl, rfl, rfl, rfl, trivial⟩ (List.Perm.refl _)
            try dsimp only
            exact ⟨by have := hr1.n0; omega, hr1.st0 (by omega)⟩   -- meet 0
          ·
            try simp only [Bool.not_eq_eq_eq_not, Bool.not_true, Bool.not_false, decide_eq_true_eq, decide_eq_false_iff_not, Int.not_lt, Int.not_le, ne_eq, Decidable.not_not, ← List.length_eq_zero_iff] at q7
            refine WC.skip ?_
            refine WE.meet s1 ?_ ⟨rfl, rfl, rfl, rfl, trivial⟩ (List.Perm.refl _)
            try dsimp only
            exact ⟨by have := hr1.s0; omega, hr1⟩   -- meet 1
        · rintro s2 hp
          try dsimp only at hp
          obtain ⟨hs2, hr2⟩ := hp
          show WC _ _ _ _ _ _ ([(0, Pt rb 0), (1, Sl pb off m c), (6, I (j : Int)), (7, I (j : Int))]) ([[(rb, .cells #[Sl sb 0 n n, I (s2 : Int), I (en : Int), I ((h.length - j : Nat) : Int)] 92 (0, 0))], Bf sb 5 l, Bf pb 5 (putB L off (h.take j)), A, R0])
          refine WC.seq ?_
          obtain ⟨hb9, hw9, hr3⟩ := hr2.take (by rw [List.length_drop]; omega)
          rw [wr_lt (by omega)] at hb9 hr3
          rw [List.drop_drop] at hr3
          have hb0 := byteAt_lo l ((0 + s2 : Nat) : Int)
          have hb1 := byteAt_hi l ((0 + s2 : Nat) : Int)
          have hstep : (putB L off (h.take j)).set (off + j) (UInt8.ofNat (byteAt l ((0 + s2 : Nat) : Int)).toNat) = putB L off (h.take (j + 1)) := by
            have hbt : UInt8.ofNat (byteAt l ((0 + s2 : Nat) : Int)).toNat = l.getD s2 0 := by rw [Nat.zero_add]; show UInt8.ofNat (((l.getD s2 0).toNat : Int)).toNat = _; simp
            have hbd : (h.drop j).getD 0 0 = h.getD j 0 := by rw [List.getD_eq_getElem?_getD, List.getD_eq_getElem?_getD, List.getElem?_drop, Nat.add_zero]
            rw [hbt, hb9, hbd]; exact putB_set L h off j (by omega) (by omega)
          have hpl : (putB L off (h.take j)).length = L.length := putB_len _ _ _ (by rw [List.length_take]; omega)
          refine WC.tailM (pl := []) (ql := [_, _, _, _, _, _, _, _, _, _, _, _, _]) (tl := [_]) [] [0, 1, 2, 3, 4, 5, 6, 7, 8, 9, 10, 11, 12] 13 [] (by kernel_rfl) (by kernel_rfl) (by kernel_rfl) (by kernel_rfl) (by kernel_rfl) (by kernel_rfl) (by decide) rfl rfl rfl (by decide) (by repeat (first | with_reducible exact QOk.body | with_reducible apply QOk.then | with_reducible apply QOk.block | exact QOk.body | apply QOk.then | apply QOk.block)) ?_
          refine WM.nil ?_
          refine WY.q (oq_move rfl) rfl rfl rfl ?_
          refine WY.q (oq_move rfl) rfl rfl rfl ?_
          refine WY.q (oq_move rfl) rfl rfl rfl ?_
          refine WY.q (oq_nilCheck rfl) rfl rfl rfl ?_
          refine WY.q (oq_fieldAddr fld92_0 rfl) rfl rfl rfl ?_
          refine WY.q (oq_load flat22 rfl (.head _) (List.mem_singleton.2 rfl) rfl) rfl rfl rfl ?_
          refine WY.q (oq_move rfl) rfl rfl rfl ?_
          refine WY.q (oq_nilCheck rfl) rfl rfl rfl ?_
          refine WY.q (oq_fieldAddr fld92_1 rfl) rfl rfl rfl ?_
          refine WY.q (oq_load flat3 rfl (.head _) (List.mem_singleton.2 rfl) rfl) rfl rfl rfl ?_
          refine WY.q (oq_ixSl (i := s2) Tryd.underlying22 ty5 rfl rfl (by omega)) rfl rfl rfl ?_
          refine WY.q (oq_loadB flat5 rfl (.tail _ (.head _)) (by omega)) rfl rfl rfl ?_
          refine WY.q (oq_ixSl (i := j) Tryd.underlying22 ty5 rfl rfl (by omega)) rfl rfl rfl ?_
          refine WY.nil ?_
          refine WL.f2 ?_
          refine WL.storeB ty5 rfl rfl (by omega) (by omega) rfl ?_
          refine WL.nil ?_
          refine WE.then_normal ?_
          refine WC.sub (fr' := [(0, _), (1, _), (6, _), (7, _)]) ?_ ⟨rfl, rfl, rfl, rfl, trivial⟩
          refine WC.seq ?_
          refine WC.region ?_
          refine WL.q (oq_move rfl) rfl rfl rfl ?_
          refine WL.q (oq_add rfl rfl (by rw [i64_lo, i64_hi]; (first | omega | (simp only [List.length_cons, List.length_nil, List.length_append, List.length_drop, List.length_take]; omega)))) rfl rfl rfl ?_
          refine WL.q (oq_assign rfl) rfl rfl rfl ?_
          refine WL.nil ?_
          refine WE.then_normal ?_
          refine WC.sub (fr' := [(0, _), (1, _), (6, _), (7, _)]) ?_ ⟨rfl, rfl, rfl, rfl, trivial⟩
          refine WC.seq ?_
          refine WC.region ?_
          refine WL.q (oq_move rfl) rfl rfl rfl ?_
          refine WL.q (oq_nilCheck rfl) rfl rfl rfl ?_
          refine WL.q (oq_fieldAddr fld92_1 rfl) rfl rfl rfl ?_
          refine WL.q (oq_load flat3 rfl (.tail _ (.head _)) (List.mem_singleton.2 rfl) rfl) rfl rfl rfl ?_
          refine WL.q (oq_add rfl rfl (by rw [i64_lo, i64_hi]; (first | omega | (simp only [List.length_cons, List.length_nil, List.length_append, List.length_drop, List.length_take]; omega)))) rfl rfl rfl ?_
          refine WL.q (oq_nilCheck rfl) rfl rfl rfl ?_
          refine WL.q (oq_fieldAddr fld92_1 rfl) rfl rfl rfl ?_
          refine WL.f1 ?_
          refine WL.store1 #[_, _, _, _] ty3 rfl rfl (by first | rfl | exact OwS.one one_) (Nat.lt_of_lt_of_le (Nat.lt_succ_self _) (Nat.le_of_ble_eq_true rfl)) rfl rfl ?_
          refine WL.nil ?_
          refine WE.then_normal ?_
          refine WC.sub (fr' := [(0, _), (1, _), (6, _), (7, _)]) ?_ ⟨rfl, rfl, rfl, rfl, trivial⟩
          refine WC.region ?_
          refine WL.q (oq_move rfl) rfl rfl rfl ?_
          refine WL.q (oq_nilCheck rfl) rfl rfl rfl ?_
          refine WL.q (oq_fieldAddr fld92_3 rfl) rfl rfl rfl ?_
          refine WL.q (oq_load flat3 rfl (.head _) (List.mem_singleton.2 rfl) rfl) rfl rfl rfl ?_
          refine WL.q (oq_sub rfl rfl (by rw [i64_lo, i64_hi]; (first | omega | (simp only [List.length_cons, List.length_nil, List.length_append, List.length_drop, List.length_take]; omega)))) rfl rfl rfl ?_
          refine WL.q (oq_nilCheck rfl) rfl rfl rfl ?_
          refine WL.q (oq_fieldAddr fld92_3 rfl) rfl rfl rfl ?_
          refine WL.store1 #[_, _, _, _] ty3 rfl rfl (by first | rfl | exact OwS.one one_) (Nat.lt_of_lt_of_le (Nat.lt_succ_self _) (Nat.le_of_ble_eq_true rfl)) rfl rfl ?_
          refine WL.nil ?_
          refine WE.block_normal ?_
          refine WE.then_normal ?_
          refine WC.sub (fr' := [(0, _), (1, _), (6, _), (7, _)]) ?_ ⟨rfl, rfl, rfl, rfl, trivial⟩
          refine WC.region ?_
          refine WL.q (oq_move rfl) rfl rfl rfl ?_
          refine WL.q (oq_add rfl rfl (by rw [i64_lo, i64_hi]; (first | omega | (simp only [List.length_cons, List.length_nil, List.length_append, List.length_drop, List.length_take]; omega)))) rfl rfl rfl ?_
          refine WL.q (oq_assign rfl) rfl rfl rfl ?_
          refine WL.nil ?_
          rw [show ((h.length - j : Nat) : Int) - 1 = ((h.length - (j + 1) : Nat) : Int) by omega]
          rw [hstep]
          refine WE.f4 ?_
          refine WE.f4 ?_
          refine WE.f3 ?_
          refine WE.f4 ?_
          refine WE.f4 ?_
          refine WE.again (j + 1, s2 + 1) ?_ ?_ ⟨rfl, rfl, rfl, rfl, trivial⟩ (List.Perm.refl _)
          · try dsimp only   -- again 0
            exact ⟨by omega, by omega, hr3⟩
          · (try dsimp only); omega
    ·
      try simp only [Bool.not_eq_eq_eq_not, Bool.not_true, Bool.not_false, decide_eq_true_eq, decide_eq_false_iff_not, Int.not_lt, Int.not_le, ne_eq, Decidable.not_not, ← List.length_eq_zero_iff] at q3
      refine WC.exit ?_
      refine WE.then_exit ?_
      refine WE.then_exit ?_
      refine WE.block_same ?_
      refine WE.then_normal ?_
      refine WC.sub (fr' := [(6, _)]) ?_ ⟨rfl, trivial⟩
      refine WC.seq ?_
      refine WC.region ?_
      refine WL.q (oq_move rfl) rfl rfl rfl ?_
      refine WL.q (oq_assign rfl) rfl rfl rfl ?_
      refine WL.q (oq_assign rfl) rfl rfl rfl ?_
      refine WL.nil ?_
      refine WE.then_normal ?_
      refine WC.sub (fr' := [(4, _), (5, _)]) ?_ ⟨rfl, rfl, trivial⟩
      refine WC.ret ?_
      refine WE.endW4 (.inl rfl) (res2 Tryd.results44 rfl rfl) ?_
      -- end 1
      have e : min m h.length = j := by omega
      rw [e, decide_eq_false (show ¬ h.length < m by omega)]
      exact ⟨s1, rfl, rfl, hr1⟩

/-- (*given.example/pub-tinwright/pub/smithy/io.RingBuffer).Len -/
theorem rlen (rb : Nat) (a b c d : Value) : FnR Tryd.prog 46 [Pt rb 0] [(rb, .cells #[a, b, c, d] 92 (0, 0))] (d) := by
  refine FnR.enter (n := 7) Tryd.func46 rfl rfl fun w0 => ?_
  refine WC.sub (fr' := [(0, _)]) ?_ ⟨rfl, trivial⟩
  refine WC.seq ?_
  refine WC.region ?_
  refine WL.q (oq_assign rfl) rfl rfl rfl ?_
  refine WL.nil ?_
  refine WE.then_normal ?_
  refine WC.sub (fr' := [(0, _)]) ?_ ⟨rfl, trivial⟩
  refine WC.seq ?_
  refine WC.region ?_
  refine WL.q (oq_move rfl) rfl rfl rfl ?_
  refine WL.q (oq_nilCheck rfl) rfl rfl rfl ?_
  refine WL.q (oq_fieldAddr fld92_3 rfl) rfl rfl rfl ?_
  refine WL.q (oq_load flat3 rfl (.head _) (List.mem_singleton.2 rfl) rfl) rfl rfl rfl ?_
  refine WL.q (oq_assign rfl) rfl rfl rfl ?_
  refine WL.nil ?_
  refine WE.then_normal ?_
  refine WC.sub (fr' := [(2, _)]) ?_ ⟨rfl, trivial⟩
  refine WC.ret ?_
  refine WE.endR (.inl rfl) (res1 Tryd.results46 rfl) ?_
  -- end 0
  rfl

/-- (*given.example/pub-tinwright/pub/smithy/io.RingBuffer).Reset -/
theorem rreset (base rb sb n : Nat) (b c d : Value) : FnW Tryd.prog 43 [Pt rb 0] base [[(rb, .cells #[Sl sb 0 n n, b, c, d] 92 (0, 0))]] (fun w Hs => w = .tuple #[] ∧ Hs = [[(rb, .cells #[Sl sb 0 n n, I 0, I 0, I 0] 92 (0, 0))]]) := by
  refine FnW.enter (n := 9) Tryd.func43 rfl rfl fun w0 R0 hbase => ?_
  subst hbase
  show WC _ _ _ _ _ _ _ ([[(rb, .cells #[Sl sb 0 n n, b, c, d] 92 (0, 0))], R0])
  refine WC.sub (fr' := [(0, _)]) ?_ ⟨rfl, trivial⟩
  refine WC.region ?_
  refine WL.q (oq_move rfl) rfl rfl rfl ?_
  refine WL.q (oq_move rfl) rfl rfl rfl ?_
  refine WL.q (oq_nilCheck rfl) rfl rfl rfl ?_
  refine WL.q (oq_fieldAddr fld92_0 rfl) rfl rfl rfl ?_
  refine WL.q (oq_load flat22 rfl (.head _) (List.mem_singleton.2 rfl) rfl) rfl rfl rfl ?_
  refine WL.q (oq_build #[_, _, _, _] str92 ty92 rfl rfl) rfl rfl rfl ?_
  refine WL.q (oq_nilCheck rfl) rfl rfl rfl ?_
  refine WL.storeS #[_, _, _, _] ty92 rfl rfl rfl rfl (Nat.le_of_ble_eq_true rfl) rfl rfl ?_
  refine WL.nil ?_
  refine WE.endW1 (.inr rfl) (res0 Tryd.results43) ?_
  -- end 0
  exact ⟨rfl, rfl⟩

/-- given.example/pub-tinwright/pub/smithy/io.NewRingBuffer -/
theorem rnew (sb n : Nat) : FnA Tryd.prog 42 [Sl sb 0 n n] [] (fun v N => ∃ rb, v = Pt rb 0 ∧ N = [(rb, .cells #[Sl sb 0 n n, I 0, I 0, I 0] 92 (0, 0))]) := by
  refine FnA.enter0 (n := 6) Tryd.func42 rfl rfl fun w0 => ?_
  refine WC.sub (fr' := [(0, _)]) ?_ ⟨rfl, trivial⟩
  refine WC.seq ?_
  refine WC.region ?_
  refine WL.q (oq_assign rfl) rfl rfl rfl ?_
  refine WL.nil ?_
  refine WE.then_normal ?_
  refine WC.sub (fr' := [(0, _)]) ?_ ⟨rfl, trivial⟩
  refine WC.seq ?_
  refine WC.region ?_
  refine WL.q (oq_move rfl) rfl rfl rfl ?_
  refine WL.q (oq_build #[_, _, _, _] str92 ty92 rfl rfl) rfl rfl rfl ?_
  refine WL.alloc ty92 rfl rfl fun b1_2 hb1_2 => ?_
  refine WL.storeS #[_, _, _, _] ty92 rfl rfl rfl rfl (Nat.le_of_ble_eq_true rfl) rfl rfl ?_
  refine WL.nil ?_
  refine WE.then_normal ?_
  refine WC.sub (fr' := [(3, _)]) ?_ ⟨rfl, trivial⟩
  refine WC.seq ?_
  refine WC.region ?_
  refine WL.q (oq_assign rfl) rfl rfl rfl ?_
  refine WL.nil ?_
  refine WE.then_normal ?_
  refine WC.sub (fr' := [(2, _)]) ?_ ⟨rfl, trivial⟩
  refine WC.ret ?_
  refine WE.endA0 (.inl rfl) (res1 Tryd.results42 rfl) ?_ (fresh1 hb1_2)
  -- end 0
  exact ⟨_, rfl, rfl⟩

end K9
end Go.Proofs.YtcgpajknehhdgaaDoor
