/- The bytes of a message, as the reference tells them. -/
import Derived.Test.YtodlhaghdplclaaDoorEP
namespace Go.Proofs.YtodlhaghdplclaaDoor
open Go Go.RowKit V EA EB EC ED EE EF EG EH EI EJ EK EL EM EN EO EP
set_option linter.unusedSimpArgs false
set_option linter.unusedVariables false
set_option maxRecDepth 10000
namespace EQ
theorem call11 : Callable Tryd.prog 11 := ⟨_, Tryd.func11, rfl, by kernel_rfl⟩
theorem call17 : Callable Tryd.prog 17 := ⟨_, Tryd.func17, rfl, by kernel_rfl⟩
theorem call18 : Callable Tryd.prog 18 := ⟨_, Tryd.func18, rfl, by kernel_rfl⟩
theorem flat22 : Flat Tryd.prog 22 := ⟨_, Tryd.underlying22, by simp⟩
theorem flat23 : Flat Tryd.prog 23 := ⟨_, Tryd.underlying23, by simp⟩
theorem ty5 : Ty Tryd.prog 5 (.int .u8 0) 1 1 := ty_of (by kernel_rfl)
theorem ty22 : Ty Tryd.prog 22 (.slice none 0 0) 1 24 := ty_of (by kernel_rfl)
theorem ty23 : Ty Tryd.prog 23 (.slice none 0 0) 1 24 := ty_of (by kernel_rfl)
theorem fld25_0 : Fld Tryd.prog 25 0 0 22 := fld_of Tryd.underlying25 rfl rfl rfl ty22 (by decide)
theorem fld25_1 : Fld Tryd.prog 25 1 1 23 := fld_of Tryd.underlying25 rfl rfl rfl ty23 (by decide)

theorem rd_if {v : Value} {N : Hp} {b : Bool} {l : List UInt8} (h : OwS 0 5 1 v N (if b then [] else l).length (bytesV (if b then [] else l))) (hb : b = false) : RdS 1 v N l.length (bytesV l) := by subst hb; exact h.rd
theorem own_app {base m : Nat} {v : Value} {A : Hp} {xs ys : List UInt8} (h : OwS base 5 1 v A m (bytesV xs ++ bytesV ys)) : OwS base 5 1 v A (xs ++ ys).length (bytesV (xs ++ ys)) := own_b2 h (by simp [bytesV])
/-- given.example/pub-tinwright/spec.VBytesOf -/
theorem vBytesOf (vh : Value) (A : Hp) (l : List HV) (hr : RdS 5 vh A l.length (recsV HV.row l)) (hok : okH l) (hn : l.length ≤ 1000) (hsz : szL l ≤ 100000) (pp : Option Addr) (pc : Nat) (data : List UInt8) (hrp : RdS 1 (.slice pp data.length pc) A data.length (bytesV data)) (hpl : data.length ≤ 50000) : FnA Tryd.prog 9 [.agg #[vh, .slice pp data.length pc]] A (fun w N => ∃ sv, w = .tuple #[sv, .bool (!(l.any badH))] ∧ RdS 1 sv N (if l.any badH then [] else msgB l data).length (bytesV (if l.any badH then [] else msgB l data))) := by
  have hdl : (hdrs l).length ≤ szL l := by have := hdrs_len hok l.length (Nat.le_refl _); rw [List.take_length] at this; exact this
  have h12 := pre12_len (hdrs l).length data.length
  refine FnA.enter (n := 47) Tryd.func9 rfl rfl fun w0 => ?_
  refine WC.sub (fr' := [(0, _)]) ?_ ⟨rfl, trivial⟩
  refine WC.seq (WC.region ?_)
  refine WL.box rfl rfl rfl fun xb hxb => ?_
  refine WL.q (oq_assign rfl) rfl rfl rfl ?_
  refine WL.q (oq_assign rfl) rfl rfl rfl ?_
  refine WL.nil (WE.then_normal (WC.sub (fr' := [(1, _)]) ?_ ⟨rfl, trivial⟩))
  refine WC.seq (WC.region ?_)
  refine WL.q (oq_fieldAddr fld25_0 rfl) rfl rfl rfl ?_
  refine WL.q (oq_load flat22 rfl (.head _) (List.mem_singleton.2 rfl) rfl) rfl rfl rfl ?_
  refine WL.f1 ?_
  refine WL.callA (vHeadersOf vh A l hr hok hn hsz) call11 rfl rfl rfl fun v1_2 N1_2 hR1_2 hN1_2 => ?_
  obtain ⟨sv, rfl, hsv⟩ := hR1_2
  refine WL.q (oq_move rfl) rfl rfl rfl ?_
  refine WL.q (oq_extract rfl rfl) rfl rfl rfl ?_
  refine WL.q (oq_extract rfl rfl) rfl rfl rfl ?_
  refine WL.q (oq_assign rfl) rfl rfl rfl ?_
  refine WL.q (oq_assign rfl) rfl rfl rfl ?_
  refine WL.nil (WE.then_normal (WC.sub (fr' := [(1, _), (4, _), (5, _)]) ?_ ⟨rfl, rfl, rfl, trivial⟩))
  refine WC.seq (WC.seq (WC.region ?_))
  refine WL.q (oq_move rfl) rfl rfl rfl ?_
  refine WL.q (oq_not rfl) rfl rfl rfl ?_
  refine WL.nil (WE.then_normal (WC.sub (fr' := [(1, _), (4, _), (14, _)]) ?_ ⟨rfl, rfl, rfl, trivial⟩))
  refine WC.cond rfl (fun q2 => ?_) (fun q2 => ?_)
  ·
    try simp only [Z1, Z2, Z3, Z4, Z5, Z6, Z7, Z8, Z9, Z0] at q2
    refine WC.seq (WC.region ?_)
    refine WL.q (oq_assign rfl) rfl rfl rfl ?_
    refine WL.q (oq_assign rfl) rfl rfl rfl ?_
    refine WL.nil (WE.then_normal (WC.sub (fr' := [(2, _), (3, _)]) ?_ ⟨rfl, rfl, trivial⟩))
    refine WC.ret (WE.then_ret ?_)
    refine WE.forget hN1_2 ?_
    refine WE.f1 ?_
    refine WE.lose hxb ?_
    refine WE.add0 ?_
    refine WE.endA (.inl rfl) (res2 Tryd.results9 rfl rfl) ?_ fresh0
    -- end 0
    have hbd : l.any badH = true := by simpa using q2
    rw [hbd]
    exact ⟨_, rfl, rfl, .inl ⟨rfl, _, _, rfl⟩⟩
  ·
    try simp only [Z1, Z2, Z3, Z4, Z5, Z6, Z7, Z8, Z9, Z0] at q2
    refine WC.skip (WE.then_normal (WC.sub (fr' := [(1, _), (4, _)]) ?_ ⟨rfl, rfl, trivial⟩))
    refine WC.seq ?_
    have hnb : l.any badH = false := by simpa using q2
    have hsr := rd_if hsv hnb
    refine WC.region ?_
    refine WL.q (oq_move rfl) rfl rfl rfl ?_
    refine WL.q (oq_len_rd hsr Tryd.underlying23 rfl) rfl rfl rfl ?_
    refine WL.q (oq_add rfl rfl (by rw [i64_lo, i64_hi]; (first | omega | (simp only [List.length_cons, List.length_nil, List.length_append, List.length_drop, List.length_take]; omega)))) rfl rfl rfl ?_
    refine WL.q (oq_fieldAddr fld25_1 rfl) rfl rfl rfl ?_
    refine WL.q (oq_load flat23 rfl (.tail _ (.tail _ (.head _))) (List.mem_singleton.2 rfl) rfl) rfl rfl rfl ?_
    refine WL.q (oq_len_rd hrp Tryd.underlying23 rfl) rfl rfl rfl ?_
    refine WL.q (oq_add rfl rfl (by rw [i64_lo, i64_hi]; (first | omega | (simp only [List.length_cons, List.length_nil, List.length_append, List.length_drop, List.length_take]; omega)))) rfl rfl rfl ?_
    refine WL.q (oq_conv Tryd.underlying3 Tryd.underlying53 rfl (by rw [u64_lo, u64_hi]; (first | omega | (simp only [List.length_cons, List.length_nil, List.length_append, List.length_drop, List.length_take]; omega)))) rfl rfl rfl ?_
    refine WL.callA0 (vNumber ((16 + (hdrs l).length + data.length : Nat) : Int) 4 (by omega) (by omega)) call17 rfl rfl rfl fun v4_8 N4_8 hR4_8 hN4_8 => ?_
    have ho4_8 := hR4_8.rebase hN4_8
    refine WL.q (oq_move rfl) rfl rfl rfl ?_
    refine WL.q (oq_len_rd hsr Tryd.underlying23 rfl) rfl rfl rfl ?_
    refine WL.q (oq_conv Tryd.underlying3 Tryd.underlying53 rfl (by rw [u64_lo, u64_hi]; (first | omega | (simp only [List.length_cons, List.length_nil, List.length_append, List.length_drop, List.length_take]; omega)))) rfl rfl rfl ?_
    refine WL.callA0 (vNumber ((hdrs l).length : Int) 4 (by omega) (by omega)) call17 rfl rfl rfl fun v4_12 N4_12 hR4_12 hN4_12 => ?_
    have ho4_12 := hR4_12.rebase hN4_12
    refine WL.f1 ?_
    refine WL.appendS ho4_8 Tryd.underlying23 ty5 rfl (by decide) rfl rfl ho4_12.rd (.head _) ((bytesV_one _)) (by unfold maxLen; (first | omega | (simp only [be_len, List.length_append]; omega))) (by (first | omega | (simp only [be_len, List.length_append]; omega))) rfl rfl fun v4a A4a ho4a hne4a => ?_
    refine WL.q (oq_assign rfl) rfl rfl rfl ?_
    refine WL.nil (WE.then_normal (WC.sub (fr' := [(1, _), (4, _), (6, _)]) ?_ ⟨rfl, rfl, rfl, trivial⟩))
    refine WC.seq ?_
    have ho5p : OwS w0.heap.size 5 1 v4a A4a (pre8 (hdrs l).length data.length).length (bytesV (pre8 (hdrs l).length data.length)) := own_b2 ho4a (by unfold pre8; simp [bytesV])
    have h8 : (pre8 (hdrs l).length data.length).length = 8 := by unfold pre8; rw [List.length_append, be_len, be_len]
    have hc1 := (crc (pre8 (hdrs l).length data.length)).isLt
    refine WC.region ?_
    refine WL.q (oq_move rfl) rfl rfl rfl ?_
    refine WL.q (oq_move rfl) rfl rfl rfl ?_
    refine WL.qc (oq_callRm (sumOf _ _ (pre8 (hdrs l).length data.length) ho5p.rd (by omega)) (.head _) call18 rfl) rfl rfl rfl ?_
    refine WL.q (oq_conv Tryd.underlying54 Tryd.underlying53 rfl (by rw [u64_lo, u64_hi]; (first | omega | (simp only [List.length_cons, List.length_nil, List.length_append, List.length_drop, List.length_take]; omega)))) rfl rfl rfl ?_
    refine WL.callA0 (vNumber ((crc (pre8 (hdrs l).length data.length)).toNat : Int) 4 (by omega) (by omega)) call17 rfl rfl rfl fun v5_4 N5_4 hR5_4 hN5_4 => ?_
    have ho5_4 := hR5_4.rebase hN5_4
    refine WL.f1 ?_
    refine WL.appendS ho4a Tryd.underlying23 ty5 rfl (by decide) rfl rfl ho5_4.rd (.head _) ((bytesV_one _)) (by unfold maxLen; (first | omega | (simp only [be_len, List.length_append]; omega))) (by (first | omega | (simp only [be_len, List.length_append]; omega))) rfl rfl fun v5a A5a ho5a hne5a => ?_
    refine WL.q (oq_assign rfl) rfl rfl rfl ?_
    refine WL.nil (WE.then_normal (WC.sub (fr' := [(1, _), (4, _), (6, _)]) ?_ ⟨rfl, rfl, rfl, trivial⟩))
    refine WC.seq ?_
    refine WC.gate 5 ([(xb, .cells #[vh, .slice pp data.length pc] 25 (0, 0))]) (by kernel_rfl) ?_
    refine WG.q 0 [2] rfl (.tail _ (.tail _ (.tail _ (.tail _ (.tail _ (.head _)))))) (fun w0 => oq_move rfl) rfl rfl rfl ?_
    refine WG.q 1 [2] rfl (.tail _ (.tail _ (.tail _ (.tail _ (.tail _ (.head _)))))) (fun w0 => oq_move rfl) rfl rfl rfl ?_
    refine WG.q 3 [4] rfl (.tail _ (.tail _ (.tail _ (.tail _ (.tail _ (.head _)))))) (fun w0 => oq_fieldAddr fld25_1 rfl) rfl rfl rfl ?_
    refine WG.q 4 [] rfl (.tail _ (.tail _ (.tail _ (.tail _ (.tail _ (.head _)))))) (fun w0 => oq_load flat23 rfl (.head _) (List.mem_singleton.2 rfl) rfl) rfl rfl rfl ?_
    refine WG.step (i := 2) (by kernel_rfl) rfl ?_
    refine WL.appendS ho5a Tryd.underlying23 ty5 rfl (by decide) rfl rfl hsr (.tail _ (.tail _ (.head _))) ((bytesV_one _)) (by unfold maxLen; (first | omega | (simp only [be_len, List.length_append]; omega))) (by (first | omega | (simp only [be_len, List.length_append]; omega))) rfl rfl fun v6a A6a ho6a hne6a => ?_
    refine WL.nil ?_
    refine WE.toG (.tail _ (.tail _ (.tail _ (.tail _ (.tail _ (.head _)))))) ?_
    refine WG.step (i := 5) (by kernel_rfl) rfl ?_
    refine WL.appendS ho6a Tryd.underlying23 ty5 rfl (by decide) rfl rfl hrp (.tail _ (.tail _ (.tail _ (.head _)))) ((bytesV_one _)) (by unfold maxLen; (first | omega | (simp only [be_len, List.length_append]; omega))) (by (first | omega | (simp only [be_len, List.length_append]; omega))) rfl rfl fun v6b A6b ho6b hne6b => ?_
    refine WL.nil ?_
    refine WE.toG0 (by kernel_rfl) ?_
    refine WG.p 6 rfl (.inl (by kernel_rfl)) (fun w0 => oq_assign rfl) rfl rfl rfl ?_
    refine WG.done (by kernel_rfl) ?_
    refine WE.then_normal (WC.sub (fr' := [(6, _)]) ?_ ⟨rfl, trivial⟩)
    refine WC.seq ?_
    have ho7p : OwS w0.heap.size 5 1 v6b A6b (msg0 l data).length (bytesV (msg0 l data)) := own_b2 ho6b (by unfold msg0 pre12 pre8 crcB; simp [bytesV])
    have hm0 : (msg0 l data).length = 12 + (hdrs l).length + data.length := by unfold msg0; rw [List.length_append, List.length_append, h12]
    have hc2 := (crc (msg0 l data)).isLt
    refine WC.region ?_
    refine WL.q (oq_move rfl) rfl rfl rfl ?_
    refine WL.q (oq_move rfl) rfl rfl rfl ?_
    refine WL.qc (oq_callRm (sumOf _ _ (msg0 l data) ho7p.rd (by omega)) (.head _) call18 rfl) rfl rfl rfl ?_
    refine WL.q (oq_conv Tryd.underlying54 Tryd.underlying53 rfl (by rw [u64_lo, u64_hi]; (first | omega | (simp only [List.length_cons, List.length_nil, List.length_append, List.length_drop, List.length_take]; omega)))) rfl rfl rfl ?_
    refine WL.callA0 (vNumber ((crc (msg0 l data)).toNat : Int) 4 (by omega) (by omega)) call17 rfl rfl rfl fun v7_4 N7_4 hR7_4 hN7_4 => ?_
    have ho7_4 := hR7_4.rebase hN7_4
    refine WL.f1 ?_
    refine WL.appendS ho6b Tryd.underlying23 ty5 rfl (by decide) rfl rfl ho7_4.rd (.head _) ((bytesV_one _)) (by unfold maxLen; (first | omega | (simp only [be_len, List.length_append]; omega))) (by (first | omega | (simp only [be_len, List.length_append]; omega))) rfl rfl fun v7a A7a ho7a hne7a => ?_
    refine WL.q (oq_assign rfl) rfl rfl rfl ?_
    refine WL.q (oq_assign rfl) rfl rfl rfl ?_
    refine WL.nil (WE.then_normal (WC.sub (fr' := [(2, _), (3, _)]) ?_ ⟨rfl, rfl, trivial⟩))
    refine WC.ret ?_
    refine WE.f1 ?_
    refine WE.forget hN7_4 ?_
    refine WE.f1 ?_
    refine WE.forget hN5_4 ?_
    refine WE.f1 ?_
    refine WE.forget hN4_12 ?_
    refine WE.f1 ?_
    refine WE.forget hN1_2 ?_
    refine WE.f2 ?_
    refine WE.lose hxb ?_
    refine WE.endA (.inl rfl) (res2 Tryd.results9 rfl rfl) ?_ (ho7a.fresh)
    -- end 1
    rw [hnb]
    exact ⟨_, rfl, (own_b2 ho7a (by unfold msgB msg0 pre12 pre8 crcB; simp [bytesV])).rd⟩

end EQ
end Go.Proofs.YtodlhaghdplclaaDoor
