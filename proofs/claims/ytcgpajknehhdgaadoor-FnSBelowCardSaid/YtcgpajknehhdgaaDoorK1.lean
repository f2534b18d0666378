/- Walks of the writing of UUIDs. -/
import Derived.Test.YtcgpajknehhdgaaDoorVI
import Derived.Test.YtcgpajknehhdgaaDoorK0
import Derived.Test.YtcgpajknehhdgaaDoorL2
namespace Go.Proofs.YtcgpajknehhdgaaDoor
open Go Go.RowKit V L2 K0
set_option linter.unusedSimpArgs false
set_option linter.unusedVariables false
set_option maxRecDepth 10000
namespace K1
theorem call77 : Callable Tryd.prog 77 := ⟨_, Tryd.func77, rfl, by kernel_rfl⟩
theorem flat5 : Flat Tryd.prog 5 := ⟨_, Tryd.underlying5, by simp⟩
theorem ty5 : Ty Tryd.prog 5 (.int .u8 0) 1 1 := ty_of (by kernel_rfl)
theorem ty111 : Ty Tryd.prog 111 (.agg #[(.int .u8 0), (.int .u8 0), (.int .u8 0), (.int .u8 0), (.int .u8 0), (.int .u8 0), (.int .u8 0), (.int .u8 0), (.int .u8 0), (.int .u8 0), (.int .u8 0), (.int .u8 0), (.int .u8 0), (.int .u8 0), (.int .u8 0), (.int .u8 0), (.int .u8 0), (.int .u8 0), (.int .u8 0), (.int .u8 0), (.int .u8 0), (.int .u8 0), (.int .u8 0), (.int .u8 0), (.int .u8 0), (.int .u8 0), (.int .u8 0), (.int .u8 0), (.int .u8 0), (.int .u8 0), (.int .u8 0), (.int .u8 0), (.int .u8 0), (.int .u8 0), (.int .u8 0), (.int .u8 0)]) 36 36 := ty_of (by kernel_rfl)

/-! ### Words -/
def dgs : List UInt8 := [48, 49, 50, 51, 52, 53, 54, 55, 56, 57, 97, 98, 99, 100, 101, 102]
def dg (n : Nat) : UInt8 := dgs.getD n 0
/-- a byte as two digits -/
def hx2 (c : UInt8) : List UInt8 := [dg (c.toNat / 16), dg (c.toNat % 16)]
def hexs (l : List UInt8) : List UInt8 := l.flatMap hx2
theorem hexs_len (l : List UInt8) : (hexs l).length = 2 * l.length := by
  induction l with
  | nil => rfl
  | cons c l ih => show (hx2 c ++ hexs l).length = _; rw [List.length_append, ih]; simp [hx2]; omega
theorem hexs_snoc (l : List UInt8) (c : UInt8) : hexs (l ++ [c]) = hexs l ++ hx2 c := by simp [hexs]
/-- the form of a UUID -/
def uform (l : List UInt8) : List UInt8 := hexs (l.take 4) ++ [45] ++ hexs ((l.drop 4).take 2) ++ [45] ++ hexs ((l.drop 6).take 2) ++ [45] ++ hexs ((l.drop 8).take 2) ++ [45] ++ hexs (l.drop 10)
/-- marked as one of version 4 -/
def v4 (l : List UInt8) : List UInt8 := (l.set 6 (UInt8.ofNat (((byteAt l 6) % 16 + 64)).toNat)).set 8 (UInt8.ofNat ((byteAt l 8 % 64 + 128)).toNat)
theorem byteAt_dgs (n : Nat) : byteAt dgs (n : Int) = ((dg n).toNat : Int) := by rw [byteAt_nat]; rfl
theorem ofNat_byteAt (l : List UInt8) (i : Nat) (h : i < l.length) : UInt8.ofNat (byteAt l (i : Int)).toNat = l[i] := by rw [byteAt_get l i h]; simp
theorem take_snoc (l : List UInt8) (a b : Nat) (h : a + b < l.length) : (l.drop a).take (b + 1) = (l.drop a).take b ++ [l[a + b]] := by
  rw [List.take_succ_eq_append_getElem (by simp; omega)]; simp
theorem set_two (A B : List UInt8) (x y h1 h2 : UInt8) : ((A ++ x :: y :: B).set A.length h1).set (A.length + 1) h2 = A ++ h1 :: h2 :: B := by
  rw [List.set_append_right _ _ (Nat.le_refl _), Nat.sub_self, List.set_cons_zero, List.set_append_right _ _ (by omega), Nat.add_sub_cancel_left, List.set_cons_succ, List.set_cons_zero]
/-- a step of the writing of digits -/
theorem hex_step (ld ls : List UInt8) (od os i : Nat) (hd : od + 2 * i + 2 ≤ ld.length) (hs : os + i < ls.length) (h1 h2 : UInt8) (e1 : h1 = dg (ls[os + i].toNat / 16)) (e2 : h2 = dg (ls[os + i].toNat % 16)) :
    ((ld.take od ++ hexs ((ls.drop os).take i) ++ ld.drop (od + 2 * i)).set (od + 2 * i) h1).set (od + (2 * i + 1)) h2 = ld.take od ++ hexs ((ls.drop os).take (i + 1)) ++ ld.drop (od + 2 * (i + 1)) := by
  have el : (ld.take od ++ hexs ((ls.drop os).take i)).length = od + 2 * i := by
    rw [List.length_append, hexs_len, List.length_take, List.length_take, List.length_drop, Nat.min_eq_left (by omega), Nat.min_eq_left (by omega)]
  have ed : ld.drop (od + 2 * i) = ld[od + 2 * i] :: ld[od + 2 * i + 1] :: ld.drop (od + 2 * (i + 1)) := by
    rw [List.drop_eq_getElem_cons (by omega), List.drop_eq_getElem_cons (by omega)]; rfl
  rw [ed, show od + (2 * i + 1) = (od + 2 * i) + 1 by omega]
  have := set_two (ld.take od ++ hexs ((ls.drop os).take i)) (ld.drop (od + 2 * (i + 1))) ld[od + 2 * i] ld[od + 2 * i + 1] h1 h2
  rw [el] at this
  rw [this, take_snoc ls os i hs, hexs_snoc, e1, e2]
  simp [hx2]
theorem dig_hi (ls : List UInt8) (k : Nat) (hk : k < ls.length) (c : Int) (hc : c = byteAt ls (k : Int)) : UInt8.ofNat (byteAt dgs (c / 16)).toNat = dg (ls[k].toNat / 16) := by
  rw [hc, byteAt_get ls k hk, show (ls[k].toNat : Int) / 16 = ((ls[k].toNat / 16 : Nat) : Int) by omega, byteAt_dgs]; simp
theorem dig_lo (ls : List UInt8) (k : Nat) (hk : k < ls.length) (c : Int) (hc : c = byteAt ls (k : Int)) : UInt8.ofNat (byteAt dgs (c % 16)).toNat = dg (ls[k].toNat % 16) := by
  rw [hc, byteAt_get ls k hk, show (ls[k].toNat : Int) % 16 = ((ls[k].toNat % 16 : Nat) : Int) by omega, byteAt_dgs]; simp
theorem len16 (l : List UInt8) (h : l.length = 16) : ∃ a0 a1 a2 a3 a4 a5 a6 a7 a8 a9 a10 a11 a12 a13 a14 a15, l = [a0, a1, a2, a3, a4, a5, a6, a7, a8, a9, a10, a11, a12, a13, a14, a15] := by
  match l, h with
  | [a0, a1, a2, a3, a4, a5, a6, a7, a8, a9, a10, a11, a12, a13, a14, a15], _ => exact ⟨a0, a1, a2, a3, a4, a5, a6, a7, a8, a9, a10, a11, a12, a13, a14, a15, rfl⟩
/-- given.example/pub-tinwright/pub/smithy/rand.zzHex -/
theorem zzHex (base bd od nd cd bs os ns cs : Nat) (ed es : TypeId) (ld ls : List UInt8) (h1 : 2 * ns ≤ nd) (h2 : od + nd ≤ ld.length) (h3 : os + ns ≤ ls.length) (hl : ld.length ≤ 1000000) (hs : ls.length ≤ 1000000) : FnW Tryd.prog 77 [Sl bd od nd cd, Sl bs os ns cs] base [Bf bd ed ld, Bf bs es ls] (fun v Hs => v = I ((2 : Int) * (ns : Int)) ∧ Hs = [Bf bd ed (ld.take od ++ hexs ((ls.drop os).take ns) ++ ld.drop (od + 2 * ns)), Bf bs es ls]) := by
  refine FnW.enter (n := 33) Tryd.func77 rfl rfl fun w0 R0 hbase => ?_
  subst hbase
  show WC _ _ _ _ _ _ _ ([Bf bd ed ld, Bf bs es ls, R0])
  refine WC.sub (fr' := [(0, _), (1, _)]) ?_ ⟨rfl, rfl, trivial⟩
  refine WC.seq ?_
  refine WC.region ?_
  refine WL.q (oq_assign rfl) rfl rfl rfl ?_
  refine WL.nil ?_
  refine WE.then_normal ?_
  refine WC.sub (fr' := [(0, _), (1, _)]) ?_ ⟨rfl, rfl, trivial⟩
  refine WC.seq ?_
  refine WC.seq ?_
  refine WC.region ?_
  refine WL.q (oq_move rfl) rfl rfl rfl ?_
  refine WL.q (oq_len_sl Tryd.underlying22 rfl) rfl rfl rfl ?_
  refine WL.q (oq_move rfl) rfl rfl rfl ?_
  refine WL.nil ?_
  refine WE.then_normal ?_
  refine WC.sub (fr' := [(0, _), (1, _), (7, _), (8, _), (9, _)]) ?_ ⟨rfl, rfl, rfl, rfl, rfl, trivial⟩
  refine WC.block ?_
  refine WC.loop (ι := Nat × (List UInt8)) (fun i_ => (fun (i : Nat) (l2 : List UInt8) => [(0, Sl bd od nd cd), (1, Sl bs os ns cs), (7, Sl bs os ns cs), (8, I (ns : Int)), (9, I (i : Int))]) i_.1 i_.2) (fun i_ => (fun (i : Nat) (l2 : List UInt8) => [Bf bd ed l2, Bf bs es ls, R0]) i_.1 i_.2) (fun i_ => (fun (i : Nat) (l2 : List UInt8) => i ≤ ns ∧ l2.length = ld.length ∧ l2 = (ld.take od ++ hexs ((ls.drop os).take i) ++ ld.drop (od + 2 * i))) i_.1 i_.2) (fun i_ => (fun (i : Nat) (l2 : List UInt8) => ns - i) i_.1 i_.2) ((0, ld)) ?_ ⟨rfl, rfl, rfl, rfl, rfl, trivial⟩ (List.Perm.refl _) ?_
  · try dsimp only
    exact ⟨by omega, rfl, by simp [hexs]⟩
  · rintro ⟨i, l2⟩ hp
    try dsimp only at hp
    obtain ⟨hi, hl2, he⟩ := hp
    show WC _ _ _ _ _ _ ([(0, Sl bd od nd cd), (1, Sl bs os ns cs), (7, Sl bs os ns cs), (8, I (ns : Int)), (9, I (i : Int))]) ([Bf bd ed l2, Bf bs es ls, R0])
    refine WC.seq ?_
    refine WC.region ?_
    refine WL.q (oq_lss rfl rfl) rfl rfl rfl ?_
    refine WL.nil ?_
    refine WE.then_normal ?_
    refine WC.sub (fr' := [(0, _), (1, _), (7, _), (8, _), (9, _), (10, _)]) ?_ ⟨rfl, rfl, rfl, rfl, rfl, rfl, trivial⟩
    refine WC.seq ?_
    refine WC.cond rfl (fun q2 => ?_) (fun q2 => ?_)
    ·
      try simp only [Bool.not_eq_eq_eq_not, Bool.not_true, Bool.not_false, decide_eq_true_eq, decide_eq_false_iff_not, Int.not_lt, Int.not_le, ne_eq, Decidable.not_not, ← List.length_eq_zero_iff] at q2
      refine WC.skip ?_
      refine WE.then_normal ?_
      refine WC.sub (fr' := [(0, _), (1, _), (7, _), (8, _), (9, _)]) ?_ ⟨rfl, rfl, rfl, rfl, rfl, trivial⟩
      refine WC.seq ?_
      refine WC.block ?_
      refine WC.seq ?_
      refine WC.region ?_
      refine WL.q (oq_move rfl) rfl rfl rfl ?_
      refine WL.q (oq_ixSl (i := i) Tryd.underlying22 ty5 rfl rfl (by (first | omega | (simp only [List.length_set]; omega)))) rfl rfl rfl ?_
      refine WL.loadB flat5 rfl (.tail _ (.head _)) (by (first | omega | (simp only [List.length_set]; omega))) rfl rfl fun c3_2 hc3_2 hc3_2l hc3_2u => ?_
      refine WL.q (oq_assign rfl) rfl rfl rfl ?_
      refine WL.q (oq_assign rfl) rfl rfl rfl ?_
      refine WL.nil ?_
      refine WE.then_normal ?_
      refine WC.sub (fr' := [(0, _), (1, _), (5, _), (6, _), (7, _), (8, _), (9, _)]) ?_ ⟨rfl, rfl, rfl, rfl, rfl, rfl, rfl, trivial⟩
      refine WC.tailM (pl := [_, _, _, _, _, _, _]) (ql := [_, _, _, _, _, _, _]) (tl := [_, _, _]) [3, 4, 5, 6, 10, 11, 12] [0, 1, 2, 7, 8, 9, 13] 14 [15, 16] (by kernel_rfl) (by kernel_rfl) (by kernel_rfl) (by kernel_rfl) (by kernel_rfl) (by kernel_rfl) (by decide) rfl rfl rfl (by decide) (by repeat (first | with_reducible exact QOk.body | with_reducible apply QOk.then | with_reducible apply QOk.block | exact QOk.body | apply QOk.then | apply QOk.block)) ?_
      refine WM.q (fun w0 => oq_move rfl) rfl rfl rfl ?_
      refine WM.q (fun w0 => oq_move rfl) rfl rfl rfl ?_
      refine WM.q (fun w0 => oq_mul rfl rfl (by rw [i64_lo, i64_hi]; (first | omega | (simp only [List.length_cons, List.length_nil, List.length_append, List.length_drop, List.length_take]; omega)))) rfl rfl rfl ?_
      refine WM.q (fun w0 => oq_add rfl rfl (by rw [i64_lo, i64_hi]; (first | omega | (simp only [List.length_cons, List.length_nil, List.length_append, List.length_drop, List.length_take]; omega)))) rfl rfl rfl ?_
      refine WM.q (fun w0 => oq_move rfl) rfl rfl rfl ?_
      refine WM.q (fun w0 => oq_mask 4 16 rfl rfl (by rw [u8_hi]; omega) (by decide) (by decide) (by decide)) rfl rfl rfl ?_
      refine WM.index_s Tryd.underlying9 rfl rfl (by (first | omega | (simp only [List.length_cons, List.length_nil, List.length_append, List.length_drop, List.length_take]; omega))) rfl rfl fun c4_12 hc4_12 hc4_12l hc4_12u => ?_
      refine WM.nil ?_
      refine WY.q (oq_move rfl) rfl rfl rfl ?_
      refine WY.q (oq_move rfl) rfl rfl rfl ?_
      refine WY.q (oq_mul rfl rfl (by rw [i64_lo, i64_hi]; (first | omega | (simp only [List.length_cons, List.length_nil, List.length_append, List.length_drop, List.length_take]; omega)))) rfl rfl rfl ?_
      refine WY.q (oq_move rfl) rfl rfl rfl ?_
      refine WY.q (oq_shrl 16 rfl rfl (by decide) (by decide)) rfl rfl rfl ?_
      refine WY.index_s Tryd.underlying9 rfl rfl (by (first | omega | (simp only [List.length_cons, List.length_nil, List.length_append, List.length_drop, List.length_take]; omega))) rfl rfl fun c4_9 hc4_9 hc4_9l hc4_9u => ?_
      refine WY.q (oq_ixSl (i := 2 * i) Tryd.underlying22 ty5 rfl rfl (by (first | omega | (simp only [List.length_set]; omega)))) rfl rfl rfl ?_
      refine WY.nil ?_
      refine WL.storeB ty5 rfl rfl (by omega) (by (first | omega | (simp only [List.length_set]; omega))) rfl ?_
      refine WL.q (oq_ixSl (i := 2 * i + 1) Tryd.underlying22 ty5 rfl rfl (by (first | omega | (simp only [List.length_set]; omega)))) rfl rfl rfl ?_
      refine WL.storeB ty5 rfl rfl (by omega) (by (first | omega | (simp only [List.length_set]; omega))) rfl ?_
      refine WL.nil ?_
      refine WE.block_normal ?_
      refine WE.then_normal ?_
      refine WC.sub (fr' := [(0, _), (1, _), (7, _), (8, _), (9, _)]) ?_ ⟨rfl, rfl, rfl, rfl, rfl, trivial⟩
      refine WC.region ?_
      refine WL.q (oq_add rfl rfl (by rw [i64_lo, i64_hi]; (first | omega | (simp only [List.length_cons, List.length_nil, List.length_append, List.length_drop, List.length_take]; omega)))) rfl rfl rfl ?_
      refine WL.q (oq_move rfl) rfl rfl rfl ?_
      refine WL.nil ?_
      refine WE.again (i + 1, _) ?_ ?_ ⟨rfl, rfl, rfl, rfl, rfl, trivial⟩ (List.Perm.refl _)
      · try dsimp only   -- again 0
        refine ⟨by omega, by simp [hl2], ?_⟩
        rw [he]
        exact hex_step ld ls od os i (by omega) (by omega) _ _ (by rw [hc4_9]; exact dig_hi ls (os + i) (by omega) c3_2 hc3_2) (by rw [hc4_12]; exact dig_lo ls (os + i) (by omega) c3_2 hc3_2)
      · (try dsimp only); omega
    ·
      try simp only [Bool.not_eq_eq_eq_not, Bool.not_true, Bool.not_false, decide_eq_true_eq, decide_eq_false_iff_not, Int.not_lt, Int.not_le, ne_eq, Decidable.not_not, ← List.length_eq_zero_iff] at q2
      refine WC.exit ?_
      refine WE.then_exit ?_
      refine WE.then_exit ?_
      refine WE.block_same ?_
      refine WE.then_normal ?_
      refine WC.sub (fr' := [(1, _)]) ?_ ⟨rfl, trivial⟩
      refine WC.seq ?_
      refine WC.region ?_
      refine WL.q (oq_move rfl) rfl rfl rfl ?_
      refine WL.q (oq_len_sl Tryd.underlying22 rfl) rfl rfl rfl ?_
      refine WL.q (oq_mul rfl rfl (by rw [i64_lo, i64_hi]; (first | omega | (simp only [List.length_cons, List.length_nil, List.length_append, List.length_drop, List.length_take]; omega)))) rfl rfl rfl ?_
      refine WL.q (oq_assign rfl) rfl rfl rfl ?_
      refine WL.nil ?_
      refine WE.then_normal ?_
      refine WC.sub (fr' := [(4, _)]) ?_ ⟨rfl, trivial⟩
      refine WC.ret ?_
      refine WE.endW2 (.inl rfl) (res1 Tryd.results77 rfl) ?_
      -- end 0
      exact ⟨rfl, by rw [he, show i = ns by omega]⟩

/-- (*given.example/pub-tinwright/pub/smithy/rand.UUID).makeUUIDv4 -/
theorem makeV4 (base bu : Nat) (x : Value) (bb : Nat) (e : TypeId) (l : List UInt8) (hl : l.length = 16) : FnW Tryd.prog 58 [x, Sl bb 0 16 16] base [Bf bb e l] (fun v Hs => Hs = [Bf bb e (v4 l)]) := by
  refine FnW.enter (n := 18) Tryd.func58 rfl rfl fun w0 R0 hbase => ?_
  subst hbase
  show WC _ _ _ _ _ _ _ ([Bf bb e l, R0])
  refine WC.sub (fr' := [(1, _)]) ?_ ⟨rfl, trivial⟩
  refine WC.seq ?_
  refine WC.region ?_
  refine WL.q (oq_move rfl) rfl rfl rfl ?_
  refine WL.q (oq_move rfl) rfl rfl rfl ?_
  refine WL.q (oq_ixSl (i := 6) Tryd.underlying22 ty5 rfl rfl (by (first | omega | (simp only [List.length_set]; omega)))) rfl rfl rfl ?_
  refine WL.loadB flat5 rfl (.head _) (by (first | omega | (simp only [List.length_set]; omega))) rfl rfl fun c0_3 hc0_3 hc0_3l hc0_3u => ?_
  refine WL.q (oq_mask 4 16 rfl rfl (by rw [u8_hi]; omega) (by decide) (by decide) (by decide)) rfl rfl rfl ?_
  refine WL.q (oq_orr 6 rfl rfl (by omega) (by omega) (by omega) (by rw [u8_hi]; omega)) rfl rfl rfl ?_
  refine WL.q (oq_ixSl (i := 6) Tryd.underlying22 ty5 rfl rfl (by (first | omega | (simp only [List.length_set]; omega)))) rfl rfl rfl ?_
  refine WL.storeB ty5 rfl rfl (by omega) (by (first | omega | (simp only [List.length_set]; omega))) rfl ?_
  refine WL.nil ?_
  refine WE.then_normal ?_
  refine WC.sub (fr' := [(1, _)]) ?_ ⟨rfl, trivial⟩
  refine WC.region ?_
  refine WL.q (oq_move rfl) rfl rfl rfl ?_
  refine WL.q (oq_move rfl) rfl rfl rfl ?_
  refine WL.q (oq_ixSl (i := 8) Tryd.underlying22 ty5 rfl rfl (by (first | omega | (simp only [List.length_set]; omega)))) rfl rfl rfl ?_
  refine WL.loadB flat5 rfl (.head _) (by (first | omega | (simp only [List.length_set]; omega))) rfl rfl fun c1_3 hc1_3 hc1_3l hc1_3u => ?_
  refine WL.q (oq_mask 6 64 rfl rfl (by rw [u8_hi]; omega) (by decide) (by decide) (by decide)) rfl rfl rfl ?_
  refine WL.q (oq_orr 7 rfl rfl (by omega) (by omega) (by omega) (by rw [u8_hi]; omega)) rfl rfl rfl ?_
  refine WL.q (oq_ixSl (i := 8) Tryd.underlying22 ty5 rfl rfl (by (first | omega | (simp only [List.length_set]; omega)))) rfl rfl rfl ?_
  refine WL.storeB ty5 rfl rfl (by omega) (by (first | omega | (simp only [List.length_set]; omega))) rfl ?_
  refine WL.nil ?_
  refine WE.endW1 (.inr rfl) (res0 Tryd.results58) ?_
  -- end 0
  have hb8 : byteAt (l.set 6 (UInt8.ofNat (c0_3 % 16 + 64).toNat)) 8 = byteAt l 8 := by
    show (((l.set 6 (UInt8.ofNat (c0_3 % 16 + 64).toNat)).getD 8 0).toNat : Int) = ((l.getD 8 0).toNat : Int)
    rw [List.getD_eq_getElem?_getD, List.getElem?_set_ne (by omega), ← List.getD_eq_getElem?_getD]
  unfold v4
  rw [hc1_3, show ((0 + 8 : Nat) : Int) = 8 from rfl]
  show [Bf bb e ((l.set 6 (UInt8.ofNat (c0_3 % 16 + 64).toNat)).set 8 (UInt8.ofNat (byteAt (l.set 6 (UInt8.ofNat (c0_3 % 16 + 64).toNat)) 8 % 64 + 128).toNat))] = _
  rw [hb8, hc0_3]
  rfl

/-- given.example/pub-tinwright/pub/smithy/rand.format -/
theorem format_ (l : List UInt8) (hl : l.length = 16) : Fn0 Tryd.prog 59 [.agg (bytesV l).toArray] (S (uform l)) := by
  refine Fn0.enter (n := 25) Tryd.func59 rfl rfl fun w0 => ?_
  refine WC.sub (fr' := [(0, _)]) ?_ ⟨rfl, trivial⟩
  refine WC.seq ?_
  refine WC.region ?_
  refine WL.box rfl rfl rfl fun bu hbu => ?_
  refine WL.asB (l) rfl ?_
  refine WL.q (oq_assign rfl) rfl rfl rfl ?_
  refine WL.nil ?_
  refine WE.then_normal ?_
  refine WC.sub (fr' := [(1, _)]) ?_ ⟨rfl, trivial⟩
  refine WC.seq ?_
  refine WC.region ?_
  refine WL.alloc ty111 rfl rfl fun bs hbs => ?_
  refine WL.asB (List.replicate 36 0) rfl ?_
  refine WL.nil ?_
  refine WE.then_normal ?_
  refine WC.sub (fr' := [(1, _), (3, _)]) ?_ ⟨rfl, rfl, trivial⟩
  refine WC.seq ?_
  refine WC.tailM (pl := []) (ql := [_, _]) (tl := [_]) [] [0, 1] 2 [] (by kernel_rfl) (by kernel_rfl) (by kernel_rfl) (by kernel_rfl) (by kernel_rfl) (by kernel_rfl) (by decide) rfl rfl rfl (by decide) (by repeat (first | with_reducible exact QOk.body | with_reducible apply QOk.then | with_reducible apply QOk.block | exact QOk.body | apply QOk.then | apply QOk.block)) ?_
  refine WM.nil ?_
  refine WY.q (oq_sliceArr (j := 8) Tryd.underlying111 ty5 rfl rfl ⟨_, rfl⟩ (by (first | omega | (simp only [List.length_set, List.length_append, hexs_len, List.length_take, List.length_drop, List.length_replicate]; omega))) (by (first | omega | (simp only [List.length_set, List.length_append, hexs_len, List.length_take, List.length_drop, List.length_replicate]; omega)))) rfl rfl rfl ?_
  refine WY.q (oq_sliceArr (i := 0) (j := 4) Tryd.underlying84 ty5 rfl ⟨_, rfl⟩ ⟨_, rfl⟩ (by (first | omega | (simp only [List.length_set, List.length_append, hexs_len, List.length_take, List.length_drop, List.length_replicate]; omega))) (by (first | omega | (simp only [List.length_set, List.length_append, hexs_len, List.length_take, List.length_drop, List.length_replicate]; omega)))) rfl rfl rfl ?_
  refine WY.nil ?_
  refine WL.f1 ?_
  refine WL.f1 ?_
  refine WL.callWE (fun a w hf => ent_fn call77 rfl hf w) (zzHex _ bs 0 _ _ bu 0 _ _ _ _ _ _ (by omega) (by simp only [List.length_set, List.length_append, hexs_len, List.length_take, List.length_drop, List.length_replicate]; omega) (by omega) (by simp only [List.length_set, List.length_append, hexs_len, List.length_take, List.length_drop, List.length_replicate]; omega) (by omega)) rfl rfl rfl rfl fun v2_2 Hs2_2 hR2_2 => ?_
  obtain ⟨rfl, rfl⟩ := hR2_2
  refine WL.app2 ?_
  refine WL.nil ?_
  refine WE.then_normal ?_
  refine WC.sub (fr' := [(1, _), (3, _)]) ?_ ⟨rfl, rfl, trivial⟩
  refine WC.seq ?_
  refine WC.region ?_
  refine WL.q (oq_ixArr (i := 8) Tryd.underlying111 ty5 rfl rfl (by (first | omega | (simp only [List.length_set, List.length_append, hexs_len, List.length_take, List.length_drop, List.length_replicate]; omega)))) rfl rfl rfl ?_
  refine WL.storeB ty5 rfl rfl (by omega) (by (first | omega | (simp only [List.length_set, List.length_append, hexs_len, List.length_take, List.length_drop, List.length_replicate]; omega))) rfl ?_
  refine WL.nil ?_
  refine WE.then_normal ?_
  refine WC.sub (fr' := [(1, _), (3, _)]) ?_ ⟨rfl, rfl, trivial⟩
  refine WC.seq ?_
  refine WC.tailM (pl := []) (ql := [_, _]) (tl := [_]) [] [0, 1] 2 [] (by kernel_rfl) (by kernel_rfl) (by kernel_rfl) (by kernel_rfl) (by kernel_rfl) (by kernel_rfl) (by decide) rfl rfl rfl (by decide) (by repeat (first | with_reducible exact QOk.body | with_reducible apply QOk.then | with_reducible apply QOk.block | exact QOk.body | apply QOk.then | apply QOk.block)) ?_
  refine WM.nil ?_
  refine WY.q (oq_sliceArr (i := 9) (j := 13) Tryd.underlying111 ty5 rfl ⟨_, rfl⟩ ⟨_, rfl⟩ (by (first | omega | (simp only [List.length_set, List.length_append, hexs_len, List.length_take, List.length_drop, List.length_replicate]; omega))) (by (first | omega | (simp only [List.length_set, List.length_append, hexs_len, List.length_take, List.length_drop, List.length_replicate]; omega)))) rfl rfl rfl ?_
  refine WY.q (oq_sliceArr (i := 4) (j := 6) Tryd.underlying84 ty5 rfl ⟨_, rfl⟩ ⟨_, rfl⟩ (by (first | omega | (simp only [List.length_set, List.length_append, hexs_len, List.length_take, List.length_drop, List.length_replicate]; omega))) (by (first | omega | (simp only [List.length_set, List.length_append, hexs_len, List.length_take, List.length_drop, List.length_replicate]; omega)))) rfl rfl rfl ?_
  refine WY.nil ?_
  refine WL.f1 ?_
  refine WL.f1 ?_
  refine WL.callWE (fun a w hf => ent_fn call77 rfl hf w) (zzHex _ bs 9 _ _ bu 4 _ _ _ _ _ _ (by omega) (by simp only [List.length_set, List.length_append, hexs_len, List.length_take, List.length_drop, List.length_replicate]; omega) (by omega) (by simp only [List.length_set, List.length_append, hexs_len, List.length_take, List.length_drop, List.length_replicate]; omega) (by omega)) rfl rfl rfl rfl fun v4_2 Hs4_2 hR4_2 => ?_
  obtain ⟨rfl, rfl⟩ := hR4_2
  refine WL.app2 ?_
  refine WL.nil ?_
  refine WE.then_normal ?_
  refine WC.sub (fr' := [(1, _), (3, _)]) ?_ ⟨rfl, rfl, trivial⟩
  refine WC.seq ?_
  refine WC.region ?_
  refine WL.q (oq_ixArr (i := 13) Tryd.underlying111 ty5 rfl rfl (by (first | omega | (simp only [List.length_set, List.length_append, hexs_len, List.length_take, List.length_drop, List.length_replicate]; omega)))) rfl rfl rfl ?_
  refine WL.storeB ty5 rfl rfl (by omega) (by (first | omega | (simp only [List.length_set, List.length_append, hexs_len, List.length_take, List.length_drop, List.length_replicate]; omega))) rfl ?_
  refine WL.nil ?_
  refine WE.then_normal ?_
  refine WC.sub (fr' := [(1, _), (3, _)]) ?_ ⟨rfl, rfl, trivial⟩
  refine WC.seq ?_
  refine WC.tailM (pl := []) (ql := [_, _]) (tl := [_]) [] [0, 1] 2 [] (by kernel_rfl) (by kernel_rfl) (by kernel_rfl) (by kernel_rfl) (by kernel_rfl) (by kernel_rfl) (by decide) rfl rfl rfl (by decide) (by repeat (first | with_reducible exact QOk.body | with_reducible apply QOk.then | with_reducible apply QOk.block | exact QOk.body | apply QOk.then | apply QOk.block)) ?_
  refine WM.nil ?_
  refine WY.q (oq_sliceArr (i := 14) (j := 18) Tryd.underlying111 ty5 rfl ⟨_, rfl⟩ ⟨_, rfl⟩ (by (first | omega | (simp only [List.length_set, List.length_append, hexs_len, List.length_take, List.length_drop, List.length_replicate]; omega))) (by (first | omega | (simp only [List.length_set, List.length_append, hexs_len, List.length_take, List.length_drop, List.length_replicate]; omega)))) rfl rfl rfl ?_
  refine WY.q (oq_sliceArr (i := 6) (j := 8) Tryd.underlying84 ty5 rfl ⟨_, rfl⟩ ⟨_, rfl⟩ (by (first | omega | (simp only [List.length_set, List.length_append, hexs_len, List.length_take, List.length_drop, List.length_replicate]; omega))) (by (first | omega | (simp only [List.length_set, List.length_append, hexs_len, List.length_take, List.length_drop, List.length_replicate]; omega)))) rfl rfl rfl ?_
  refine WY.nil ?_
  refine WL.f1 ?_
  refine WL.f1 ?_
  refine WL.callWE (fun a w hf => ent_fn call77 rfl hf w) (zzHex _ bs 14 _ _ bu 6 _ _ _ _ _ _ (by omega) (by simp only [List.length_set, List.length_append, hexs_len, List.length_take, List.length_drop, List.length_replicate]; omega) (by omega) (by simp only [List.length_set, List.length_append, hexs_len, List.length_take, List.length_drop, List.length_replicate]; omega) (by omega)) rfl rfl rfl rfl fun v6_2 Hs6_2 hR6_2 => ?_
  obtain ⟨rfl, rfl⟩ := hR6_2
  refine WL.app2 ?_
  refine WL.nil ?_
  refine WE.then_normal ?_
  refine WC.sub (fr' := [(1, _), (3, _)]) ?_ ⟨rfl, rfl, trivial⟩
  refine WC.seq ?_
  refine WC.region ?_
  refine WL.q (oq_ixArr (i := 18) Tryd.underlying111 ty5 rfl rfl (by (first | omega | (simp only [List.length_set, List.length_append, hexs_len, List.length_take, List.length_drop, List.length_replicate]; omega)))) rfl rfl rfl ?_
  refine WL.storeB ty5 rfl rfl (by omega) (by (first | omega | (simp only [List.length_set, List.length_append, hexs_len, List.length_take, List.length_drop, List.length_replicate]; omega))) rfl ?_
  refine WL.nil ?_
  refine WE.then_normal ?_
  refine WC.sub (fr' := [(1, _), (3, _)]) ?_ ⟨rfl, rfl, trivial⟩
  refine WC.seq ?_
  refine WC.tailM (pl := []) (ql := [_, _]) (tl := [_]) [] [0, 1] 2 [] (by kernel_rfl) (by kernel_rfl) (by kernel_rfl) (by kernel_rfl) (by kernel_rfl) (by kernel_rfl) (by decide) rfl rfl rfl (by decide) (by repeat (first | with_reducible exact QOk.body | with_reducible apply QOk.then | with_reducible apply QOk.block | exact QOk.body | apply QOk.then | apply QOk.block)) ?_
  refine WM.nil ?_
  refine WY.q (oq_sliceArr (i := 19) (j := 23) Tryd.underlying111 ty5 rfl ⟨_, rfl⟩ ⟨_, rfl⟩ (by (first | omega | (simp only [List.length_set, List.length_append, hexs_len, List.length_take, List.length_drop, List.length_replicate]; omega))) (by (first | omega | (simp only [List.length_set, List.length_append, hexs_len, List.length_take, List.length_drop, List.length_replicate]; omega)))) rfl rfl rfl ?_
  refine WY.q (oq_sliceArr (i := 8) (j := 10) Tryd.underlying84 ty5 rfl ⟨_, rfl⟩ ⟨_, rfl⟩ (by (first | omega | (simp only [List.length_set, List.length_append, hexs_len, List.length_take, List.length_drop, List.length_replicate]; omega))) (by (first | omega | (simp only [List.length_set, List.length_append, hexs_len, List.length_take, List.length_drop, List.length_replicate]; omega)))) rfl rfl rfl ?_
  refine WY.nil ?_
  refine WL.f1 ?_
  refine WL.f1 ?_
  refine WL.callWE (fun a w hf => ent_fn call77 rfl hf w) (zzHex _ bs 19 _ _ bu 8 _ _ _ _ _ _ (by omega) (by simp only [List.length_set, List.length_append, hexs_len, List.length_take, List.length_drop, List.length_replicate]; omega) (by omega) (by simp only [List.length_set, List.length_append, hexs_len, List.length_take, List.length_drop, List.length_replicate]; omega) (by omega)) rfl rfl rfl rfl fun v8_2 Hs8_2 hR8_2 => ?_
  obtain ⟨rfl, rfl⟩ := hR8_2
  refine WL.app2 ?_
  refine WL.nil ?_
  refine WE.then_normal ?_
  refine WC.sub (fr' := [(1, _), (3, _)]) ?_ ⟨rfl, rfl, trivial⟩
  refine WC.seq ?_
  refine WC.region ?_
  refine WL.q (oq_ixArr (i := 23) Tryd.underlying111 ty5 rfl rfl (by (first | omega | (simp only [List.length_set, List.length_append, hexs_len, List.length_take, List.length_drop, List.length_replicate]; omega)))) rfl rfl rfl ?_
  refine WL.storeB ty5 rfl rfl (by omega) (by (first | omega | (simp only [List.length_set, List.length_append, hexs_len, List.length_take, List.length_drop, List.length_replicate]; omega))) rfl ?_
  refine WL.nil ?_
  refine WE.then_normal ?_
  refine WC.sub (fr' := [(1, _), (3, _)]) ?_ ⟨rfl, rfl, trivial⟩
  refine WC.seq ?_
  refine WC.tailM (pl := []) (ql := [_, _]) (tl := [_]) [] [0, 1] 2 [] (by kernel_rfl) (by kernel_rfl) (by kernel_rfl) (by kernel_rfl) (by kernel_rfl) (by kernel_rfl) (by decide) rfl rfl rfl (by decide) (by repeat (first | with_reducible exact QOk.body | with_reducible apply QOk.then | with_reducible apply QOk.block | exact QOk.body | apply QOk.then | apply QOk.block)) ?_
  refine WM.nil ?_
  refine WY.q (oq_sliceArr (i := 24) Tryd.underlying111 ty5 rfl ⟨_, rfl⟩ rfl (by (first | omega | (simp only [List.length_set, List.length_append, hexs_len, List.length_take, List.length_drop, List.length_replicate]; omega))) (by (first | omega | (simp only [List.length_set, List.length_append, hexs_len, List.length_take, List.length_drop, List.length_replicate]; omega)))) rfl rfl rfl ?_
  refine WY.q (oq_sliceArr (i := 10) Tryd.underlying84 ty5 rfl ⟨_, rfl⟩ rfl (by (first | omega | (simp only [List.length_set, List.length_append, hexs_len, List.length_take, List.length_drop, List.length_replicate]; omega))) (by (first | omega | (simp only [List.length_set, List.length_append, hexs_len, List.length_take, List.length_drop, List.length_replicate]; omega)))) rfl rfl rfl ?_
  refine WY.nil ?_
  refine WL.f1 ?_
  refine WL.f1 ?_
  refine WL.callWE (fun a w hf => ent_fn call77 rfl hf w) (zzHex _ bs 24 _ _ bu 10 _ _ _ _ _ _ (by omega) (by simp only [List.length_set, List.length_append, hexs_len, List.length_take, List.length_drop, List.length_replicate]; omega) (by omega) (by simp only [List.length_set, List.length_append, hexs_len, List.length_take, List.length_drop, List.length_replicate]; omega) (by omega)) rfl rfl rfl rfl fun v10_2 Hs10_2 hR10_2 => ?_
  obtain ⟨rfl, rfl⟩ := hR10_2
  refine WL.app2 ?_
  refine WL.nil ?_
  refine WE.then_normal ?_
  refine WC.sub (fr' := [(3, _)]) ?_ ⟨rfl, trivial⟩
  refine WC.seq ?_
  refine WC.region ?_
  refine WL.q (oq_sliceArr Tryd.underlying111 ty5 rfl rfl rfl (by (first | omega | (simp only [List.length_set, List.length_append, hexs_len, List.length_take, List.length_drop, List.length_replicate]; omega))) (by (first | omega | (simp only [List.length_set, List.length_append, hexs_len, List.length_take, List.length_drop, List.length_replicate]; omega)))) rfl rfl rfl ?_
  refine WL.q (oq_bytesStr (Sl.rd (by (first | omega | (simp only [List.length_set, List.length_append, hexs_len, List.length_take, List.length_drop, List.length_replicate]; omega))) (by (first | omega | (simp only [List.length_set, List.length_append, hexs_len, List.length_take, List.length_drop, List.length_replicate]; omega)))) (.head _) Tryd.underlying9 Tryd.underlying22 Tryd.underlying5 rfl) rfl rfl rfl ?_
  refine WL.q (oq_assign rfl) rfl rfl rfl ?_
  refine WL.nil ?_
  refine WE.then_normal ?_
  refine WC.sub (fr' := [(2, _)]) ?_ ⟨rfl, trivial⟩
  refine WC.ret ?_
  refine WE.lose hbs ?_
  refine WE.lose hbu ?_
  refine WE.end0 (.inl rfl) (res1 Tryd.results59 rfl) ?_
  -- end 0
  obtain ⟨a0, a1, a2, a3, a4, a5, a6, a7, a8, a9, a10, a11, a12, a13, a14, a15, rfl⟩ := len16 l hl
  kernel_rfl

end K1
end Go.Proofs.YtcgpajknehhdgaaDoor
