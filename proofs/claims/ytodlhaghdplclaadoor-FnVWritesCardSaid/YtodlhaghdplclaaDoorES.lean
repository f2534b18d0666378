/- The law: what is written is what the reference tells. -/
import Derived.Test.YtodlhaghdplclaaDoorER
namespace Go.Proofs.YtodlhaghdplclaaDoor
open Go Go.RowKit V EA EB EC ED EE EF EG EH EI EJ EK EL EM EN EO EP EQ ER
set_option linter.unusedSimpArgs false
set_option linter.unusedVariables false
set_option maxRecDepth 10000
namespace ES
theorem call4 : Callable Tryd.prog 4 := ⟨_, Tryd.func4, rfl, by kernel_rfl⟩
theorem call5 : Callable Tryd.prog 5 := ⟨_, Tryd.func5, rfl, by kernel_rfl⟩
theorem call6 : Callable Tryd.prog 6 := ⟨_, Tryd.func6, rfl, by kernel_rfl⟩
theorem call7 : Callable Tryd.prog 7 := ⟨_, Tryd.func7, rfl, by kernel_rfl⟩
theorem call8 : Callable Tryd.prog 8 := ⟨_, Tryd.func8, rfl, by kernel_rfl⟩
theorem call9 : Callable Tryd.prog 9 := ⟨_, Tryd.func9, rfl, by kernel_rfl⟩
theorem call10 : Callable Tryd.prog 10 := ⟨_, Tryd.func10, rfl, by kernel_rfl⟩
theorem call11 : Callable Tryd.prog 11 := ⟨_, Tryd.func11, rfl, by kernel_rfl⟩
theorem flat22 : Flat Tryd.prog 22 := ⟨_, Tryd.underlying22, by simp⟩
theorem ty22 : Ty Tryd.prog 22 (.slice none 0 0) 1 24 := ty_of (by kernel_rfl)
theorem ty25 : Ty Tryd.prog 25 (.agg #[(.slice none 0 0), (.slice none 0 0)]) 2 48 := ty_of (by kernel_rfl)
theorem agg25 : Agg Tryd.prog 25 := agg_of Tryd.underlying25
theorem str25 : Str Tryd.prog 25 #[(0, 1), (1, 1)] := ⟨_, Tryd.underlying25, fun w => by kernel_rfl⟩
theorem fld25_0 : Fld Tryd.prog 25 0 0 22 := fld_of Tryd.underlying25 rfl rfl rfl ty22 (by decide)

theorem okH0 : okH [] := fun i h => nomatch h
theorem len16 : (msgB [] []).length = 16 := by unfold msgB msg0 crcB; rw [List.length_append, List.length_append, List.length_append, pre12_len, be_len]; rfl
theorem rd0 (s : Nat) : RdS s (.slice none 0 0) [] 0 [] := ⟨by simp, .inl ⟨rfl, _, _, rfl⟩⟩
theorem enc0 : FnA Tryd.prog 8 [.agg #[.slice none 0 0, .slice none 0 0]] [] (fun w N => ∃ sv, w = .tuple #[sv, .bool true] ∧ RdS 1 sv N 16 (bytesV (msgB [] []))) := by
  refine (vEncode (.slice none 0 0) [] [] (rd0 5) okH0 (by simp) (by simp [szL]) none 0 [] (rd0 1) (by simp)).mono ?_
  rintro w N ⟨sv, rfl, h⟩
  refine ⟨sv, rfl, ?_⟩
  have h2 : RdS 1 sv N (msgB [] []).length (bytesV (msgB [] [])) := h
  rw [len16] at h2; exact h2
theorem szL_sum : ∀ l : List HV, szL l = sumH l + 12 * l.length
  | [] => rfl
  | h :: l => by
    have := szL_sum l
    simp only [szL, sumH, List.map_cons, List.sum_cons, List.length_cons, szH] at this ⊢
    omega
theorem sumH_get : ∀ {l : List HV} {i : Nat}, i < l.length → (l.getD i HV0).text.length ≤ sumH l
  | [], _, h => nomatch h
  | h :: l, 0, _ => by simp [sumH]; omega
  | h :: l, i + 1, hi => by
    have := sumH_get (l := l) (i := i) (by simpa using hi)
    have e : sumH (h :: l) = h.name.length + h.text.length + sumH l := by simp [sumH]
    have e2 : (h :: l).getD (i + 1) HV0 = l.getD i HV0 := by simp [List.getD_eq_getElem?_getD]
    rw [e, e2]; omega
theorem fine_ok {l : List HV} (h : l.all fineB = true) (hs : sumH l ≤ 70000) : okH l := fun i hi => by
  have h1 := all_get h hi
  have h2 := sumH_get hi
  exact ⟨of_decide_eq_true h1, by omega⟩
theorem sized_of {l : List HV} {n : Nat} (h : (decide (l.length ≤ 100) && decide (sumH l ≤ 70000) && decide (n ≤ 5000)) = true) : l.length ≤ 100 ∧ sumH l ≤ 70000 ∧ n ≤ 5000 := by
  simp only [Bool.and_eq_true, decide_eq_true_eq] at h; exact ⟨h.1.1, h.1.2, h.2⟩
/-- given.example/pub-tinwright/laws.vAwake -/
theorem vAwake  : Fn0 Tryd.prog 7 [] (.bool true) := by
  refine Fn0.enter (n := 14) Tryd.func7 rfl rfl fun w0 => ?_
  refine WC.sub (fr' := []) ?_ trivial
  refine WC.seq (WC.region ?_)
  refine WL.q (oq_assign rfl) rfl rfl rfl ?_
  refine WL.nil (WE.then_normal (WC.sub (fr' := []) ?_ trivial))
  refine WC.seq (WC.region ?_)
  refine WL.q (oq_build #[_, _] str25 ty25 rfl rfl) rfl rfl rfl ?_
  refine WL.callA0 (enc0) call8 rfl rfl rfl fun v1_1 N1_1 hR1_1 hN1_1 => ?_
  obtain ⟨sv, rfl, hsv⟩ := hR1_1
  refine WL.q (oq_move rfl) rfl rfl rfl ?_
  refine WL.q (oq_extract rfl rfl) rfl rfl rfl ?_
  refine WL.q (oq_extract rfl rfl) rfl rfl rfl ?_
  refine WL.q (oq_assign rfl) rfl rfl rfl ?_
  refine WL.q (oq_assign rfl) rfl rfl rfl ?_
  refine WL.nil (WE.then_normal (WC.sub (fr' := [(1, _), (2, _)]) ?_ ⟨rfl, rfl, trivial⟩))
  refine WC.seq (WC.region ?_)
  refine WL.q (oq_move rfl) rfl rfl rfl ?_
  refine WL.q (oq_move rfl) rfl rfl rfl ?_
  refine WL.q (oq_move rfl) rfl rfl rfl ?_
  refine WL.q (oq_len_rd hsv Tryd.underlying23 rfl) rfl rfl rfl ?_
  refine WL.q (oq_eql rfl rfl) rfl rfl rfl ?_
  refine WL.q (oq_pick_t rfl rfl) rfl rfl rfl ?_
  refine WL.q (oq_assign rfl) rfl rfl rfl ?_
  refine WL.nil (WE.then_normal (WC.sub (fr' := [(0, _)]) ?_ ⟨rfl, trivial⟩))
  refine WC.ret ?_
  refine WE.forget hN1_1 ?_
  refine WE.end0 (.inl rfl) (res1 Tryd.results7 rfl) ?_
  -- end 0
  rfl

/-- given.example/pub-tinwright/laws.FnVWrites -/
theorem law (A : Hp) (vh : Value) (l : List HV) (hr : RdS 5 vh A l.length (recsV HV.row l)) (hint : intOk l) (pp : Option Addr) (pc : Nat) (data : List UInt8) (hrp : RdS 1 (.slice pp data.length pc) A data.length (bytesV data)) : FnR Tryd.prog 3 [.agg #[vh, .slice pp data.length pc]] A (.bool true) := by
  refine FnR.enter (n := 75) Tryd.func3 rfl rfl fun w0 => ?_
  refine WC.sub (fr' := [(0, _)]) ?_ ⟨rfl, trivial⟩
  refine WC.seq (WC.region ?_)
  refine WL.box rfl rfl rfl fun xb hxb => ?_
  refine WL.q (oq_assign rfl) rfl rfl rfl ?_
  refine WL.nil (WE.then_normal (WC.sub (fr' := [(1, _)]) ?_ ⟨rfl, trivial⟩))
  refine WC.seq (WC.seq (WC.region ?_))
  refine WL.q (oq_loadS [_, _] agg25 ty25 rfl (.head _) (List.mem_singleton.2 rfl) rfl rfl) rfl rfl rfl ?_
  refine WL.qc (oq_callRm (fits3 vh A l hr pp pc data.length) (.tail _ (.head _)) call4 rfl) rfl rfl rfl ?_
  refine WL.q (oq_not rfl) rfl rfl rfl ?_
  refine WL.nil (WE.then_normal (WC.sub (fr' := [(1, _), (13, _)]) ?_ ⟨rfl, rfl, trivial⟩))
  refine WC.cond rfl (fun q1 => ?_) (fun q1 => ?_)
  ·
    try simp only [Z1, Z2, Z3, Z4, Z5, Z6, Z7, Z8, Z9, Z0] at q1
    refine WC.seq (WC.region ?_)
    refine WL.q (oq_assign rfl) rfl rfl rfl ?_
    refine WL.nil (WE.then_normal (WC.sub (fr' := [(2, _)]) ?_ ⟨rfl, trivial⟩))
    refine WC.ret (WE.then_ret ?_)
    refine WE.lose hxb ?_
    refine WE.endR (.inl rfl) (res1 Tryd.results3 rfl) ?_
    -- end 0
    first | rfl | (exfalso; simp_all; done) | (cases l.any badH <;> simp_all)
  ·
    try simp only [Z1, Z2, Z3, Z4, Z5, Z6, Z7, Z8, Z9, Z0] at q1
    refine WC.skip (WE.then_normal (WC.sub (fr' := [(1, _)]) ?_ ⟨rfl, trivial⟩))
    refine WC.seq (WC.seq ?_)
    rw [Bool.and_eq_true] at q1
    have hf := q1.1
    refine WC.region ?_
    refine WL.q (oq_loadS [_, _] agg25 ty25 rfl (.head _) (List.mem_singleton.2 rfl) rfl rfl) rfl rfl rfl ?_
    refine WL.qc (oq_callRm (sized vh A l hr pp pc data.length hf) (.tail _ (.head _)) call5 rfl) rfl rfl rfl ?_
    refine WL.q (oq_not rfl) rfl rfl rfl ?_
    refine WL.q (oq_move rfl) rfl rfl rfl ?_
    refine WL.split 17 rfl (fun s3_3 => ?_) (fun s3_3 => ?_)
    ·
      try simp only [Z1, Z2, Z3, Z4, Z5, Z6, Z7, Z8, Z9, Z0] at s3_3
      refine WL.skip rfl rfl rfl ?_
      refine WL.skip rfl rfl rfl ?_
      refine WL.skip rfl rfl rfl ?_
      refine WL.skip rfl rfl rfl ?_
      refine WL.q (oq_pick_t rfl rfl) rfl rfl rfl ?_
      refine WL.nil (WE.then_normal (WC.sub (fr' := [(1, _), (22, _)]) ?_ ⟨rfl, rfl, trivial⟩))
      refine WC.cond_t rfl ?_
      refine WC.seq (WC.region ?_)
      refine WL.qc (oq_call (vAwake) call7 rfl) rfl rfl rfl ?_
      refine WL.q (oq_assign rfl) rfl rfl rfl ?_
      refine WL.nil (WE.then_normal (WC.sub (fr' := [(2, _)]) ?_ ⟨rfl, trivial⟩))
      refine WC.ret (WE.then_ret ?_)
      refine WE.lose hxb ?_
      refine WE.endR (.inl rfl) (res1 Tryd.results3 rfl) ?_
      -- end 1
      first | rfl | (exfalso; simp_all; done) | (cases l.any badH <;> simp_all)
    ·
      try simp only [Z1, Z2, Z3, Z4, Z5, Z6, Z7, Z8, Z9, Z0] at s3_3
      obtain ⟨hl1, hsu, hda⟩ := sized_of s3_3
      have hln : l.length ≤ 1000 := by omega
      refine WL.q (oq_fieldAddr fld25_0 rfl) rfl rfl rfl ?_
      refine WL.q (oq_load flat22 rfl (.head _) (List.mem_singleton.2 rfl) rfl) rfl rfl rfl ?_
      refine WL.qc (oq_callRm (vFine vh A l hr hint hln) (.tail _ (.head _)) call6 rfl) rfl rfl rfl ?_
      refine WL.q (oq_not rfl) rfl rfl rfl ?_
      refine WL.q (oq_pick_f rfl rfl) rfl rfl rfl ?_
      refine WL.nil (WE.then_normal (WC.sub (fr' := [(1, _), (22, _)]) ?_ ⟨rfl, rfl, trivial⟩))
      refine WC.cond rfl (fun q3 => ?_) (fun q3 => ?_)
      ·
        try simp only [Z1, Z2, Z3, Z4, Z5, Z6, Z7, Z8, Z9, Z0] at q3
        refine WC.seq (WC.region ?_)
        refine WL.qc (oq_call (vAwake) call7 rfl) rfl rfl rfl ?_
        refine WL.q (oq_assign rfl) rfl rfl rfl ?_
        refine WL.nil (WE.then_normal (WC.sub (fr' := [(2, _)]) ?_ ⟨rfl, trivial⟩))
        refine WC.ret (WE.then_ret ?_)
        refine WE.lose hxb ?_
        refine WE.endR (.inl rfl) (res1 Tryd.results3 rfl) ?_
        -- end 2
        first | rfl | (exfalso; simp_all; done) | (cases l.any badH <;> simp_all)
      ·
        try simp only [Z1, Z2, Z3, Z4, Z5, Z6, Z7, Z8, Z9, Z0] at q3
        refine WC.skip (WE.then_normal (WC.sub (fr' := [(1, _)]) ?_ ⟨rfl, trivial⟩))
        refine WC.seq ?_
        have hok := fine_ok q3 hsu
        have hsz : szL l ≤ 100000 := by rw [szL_sum]; omega
        refine WC.region ?_
        refine WL.q (oq_loadS [_, _] agg25 ty25 rfl (.head _) (List.mem_singleton.2 rfl) rfl rfl) rfl rfl rfl ?_
        refine WL.f1 ?_
        refine WL.callA (vEncode vh A l hr hok hln hsz pp pc data hrp (by omega)) call8 rfl rfl rfl fun v5_1 N5_1 hR5_1 hN5_1 => ?_
        obtain ⟨sv5, rfl, hsv5⟩ := hR5_1
        refine WL.q (oq_move rfl) rfl rfl rfl ?_
        refine WL.q (oq_extract rfl rfl) rfl rfl rfl ?_
        refine WL.q (oq_extract rfl rfl) rfl rfl rfl ?_
        refine WL.q (oq_assign rfl) rfl rfl rfl ?_
        refine WL.q (oq_assign rfl) rfl rfl rfl ?_
        refine WL.nil (WE.then_normal (WC.sub (fr' := [(1, _), (3, _), (4, _)]) ?_ ⟨rfl, rfl, rfl, trivial⟩))
        refine WC.seq (WC.region ?_)
        refine WL.q (oq_loadS [_, _] agg25 ty25 rfl (.tail _ (.tail _ (.head _))) (List.mem_singleton.2 rfl) rfl rfl) rfl rfl rfl ?_
        refine WL.f1 ?_
        refine WL.callA (vBytesOf vh A l hr hok hln hsz pp pc data hrp (by omega)) call9 rfl rfl rfl fun v6_1 N6_1 hR6_1 hN6_1 => ?_
        obtain ⟨sv6, rfl, hsv6⟩ := hR6_1
        refine WL.q (oq_move rfl) rfl rfl rfl ?_
        refine WL.q (oq_extract rfl rfl) rfl rfl rfl ?_
        refine WL.q (oq_extract rfl rfl) rfl rfl rfl ?_
        refine WL.q (oq_assign rfl) rfl rfl rfl ?_
        refine WL.q (oq_assign rfl) rfl rfl rfl ?_
        refine WL.nil (WE.then_normal (WC.sub (fr' := [(1, _), (3, _), (4, _), (5, _), (6, _)]) ?_ ⟨rfl, rfl, rfl, rfl, rfl, trivial⟩))
        refine WC.seq (WC.region ?_)
        refine WL.q (oq_fieldAddr fld25_0 rfl) rfl rfl rfl ?_
        refine WL.q (oq_load flat22 rfl (.tail _ (.tail _ (.tail _ (.head _)))) (List.mem_singleton.2 rfl) rfl) rfl rfl rfl ?_
        refine WL.f1 ?_
        refine WL.callA (vHeaders vh A l hr hok hln hsz) call10 rfl rfl rfl fun v7_2 N7_2 hR7_2 hN7_2 => ?_
        obtain ⟨sv7, rfl, hsv7⟩ := hR7_2
        refine WL.q (oq_move rfl) rfl rfl rfl ?_
        refine WL.q (oq_extract rfl rfl) rfl rfl rfl ?_
        refine WL.q (oq_extract rfl rfl) rfl rfl rfl ?_
        refine WL.q (oq_assign rfl) rfl rfl rfl ?_
        refine WL.q (oq_assign rfl) rfl rfl rfl ?_
        refine WL.nil (WE.then_normal (WC.sub (fr' := [(1, _), (3, _), (4, _), (5, _), (6, _), (7, _), (8, _)]) ?_ ⟨rfl, rfl, rfl, rfl, rfl, rfl, rfl, trivial⟩))
        refine WC.seq (WC.region ?_)
        refine WL.q (oq_fieldAddr fld25_0 rfl) rfl rfl rfl ?_
        refine WL.q (oq_load flat22 rfl (.tail _ (.tail _ (.tail _ (.tail _ (.head _))))) (List.mem_singleton.2 rfl) rfl) rfl rfl rfl ?_
        refine WL.f1 ?_
        refine WL.callA (vHeadersOf vh A l hr hok hln hsz) call11 rfl rfl rfl fun v8_2 N8_2 hR8_2 hN8_2 => ?_
        obtain ⟨sv8, rfl, hsv8⟩ := hR8_2
        have hsv8 := hsv8.rd
        refine WL.q (oq_move rfl) rfl rfl rfl ?_
        refine WL.q (oq_extract rfl rfl) rfl rfl rfl ?_
        refine WL.q (oq_extract rfl rfl) rfl rfl rfl ?_
        refine WL.q (oq_assign rfl) rfl rfl rfl ?_
        refine WL.q (oq_assign rfl) rfl rfl rfl ?_
        refine WL.nil (WE.then_normal (WC.sub (fr' := [(3, _), (4, _), (5, _), (6, _), (7, _), (8, _), (9, _)]) ?_ ⟨rfl, rfl, rfl, rfl, rfl, rfl, rfl, trivial⟩))
        refine WC.seq (WC.region ?_)
        refine WL.q (oq_move rfl) rfl rfl rfl ?_
        refine WL.q (oq_move rfl) rfl rfl rfl ?_
        refine WL.q (oq_beql Tryd.underlying4 rfl rfl) rfl rfl rfl ?_
        refine WL.q (oq_move rfl) rfl rfl rfl ?_
        refine WL.split 49 rfl (fun s9_3 => ?_) (fun s9_3 => ?_)
        ·
          try simp only [Z1, Z2, Z3, Z4, Z5, Z6, Z7, Z8, Z9, Z0] at s9_3
          refine WL.q (oq_move rfl) rfl rfl rfl ?_
          refine WL.q (oq_move rfl) rfl rfl rfl ?_
          refine WL.q (oq_beql Tryd.underlying4 rfl rfl) rfl rfl rfl ?_
          refine WL.q (oq_pick_t rfl rfl) rfl rfl rfl ?_
          refine WL.q (oq_move rfl) rfl rfl rfl ?_
          refine WL.split 54 rfl (fun s9_8 => ?_) (fun s9_8 => ?_)
          ·
            try simp only [Z1, Z2, Z3, Z4, Z5, Z6, Z7, Z8, Z9, Z0] at s9_8
            refine WL.q (oq_move rfl) rfl rfl rfl ?_
            refine WL.q (oq_not rfl) rfl rfl rfl ?_
            refine WL.q (oq_move rfl) rfl rfl rfl ?_
            refine WL.split 57 rfl (fun s9_11 => ?_) (fun s9_11 => ?_)
            ·
              try simp only [Z1, Z2, Z3, Z4, Z5, Z6, Z7, Z8, Z9, Z0] at s9_11
              refine WL.skip rfl rfl rfl ?_
              refine WL.skip rfl rfl rfl ?_
              refine WL.skip rfl rfl rfl ?_
              refine WL.skip rfl rfl rfl ?_
              refine WL.skip rfl rfl rfl ?_
              refine WL.skip rfl rfl rfl ?_
              refine WL.skip rfl rfl rfl ?_
              refine WL.skip rfl rfl rfl ?_
              refine WL.skip rfl rfl rfl ?_
              refine WL.skip rfl rfl rfl ?_
              refine WL.skip rfl rfl rfl ?_
              refine WL.skip rfl rfl rfl ?_
              refine WL.q (oq_pick_t rfl rfl) rfl rfl rfl ?_
              refine WL.q (oq_pick_t rfl rfl) rfl rfl rfl ?_
              refine WL.q (oq_move rfl) rfl rfl rfl ?_
              refine WL.qc (oq_call (vAwake) call7 rfl) rfl rfl rfl ?_
              refine WL.q (oq_pick_t rfl rfl) rfl rfl rfl ?_
              refine WL.q (oq_assign rfl) rfl rfl rfl ?_
              refine WL.nil (WE.then_normal (WC.sub (fr' := [(2, _)]) ?_ ⟨rfl, trivial⟩))
              refine WC.ret ?_
              refine WE.forget hN8_2 ?_
              refine WE.f1 ?_
              refine WE.forget hN7_2 ?_
              refine WE.f1 ?_
              refine WE.forget hN6_1 ?_
              refine WE.f1 ?_
              refine WE.forget hN5_1 ?_
              refine WE.f1 ?_
              refine WE.lose hxb ?_
              refine WE.endR (.inl rfl) (res1 Tryd.results3 rfl) ?_
              -- end 3
              first | rfl | (exfalso; simp_all; done) | (cases l.any badH <;> simp_all)
            ·
              try simp only [Z1, Z2, Z3, Z4, Z5, Z6, Z7, Z8, Z9, Z0] at s9_11
              refine WL.q (oq_move rfl) rfl rfl rfl ?_
              refine WL.q (oq_bytesStr hsv5 (.tail _ (.tail _ (.tail _ (.tail _ (.head _))))) Tryd.underlying9 Tryd.underlying23 Tryd.underlying5 rfl) rfl rfl rfl ?_
              refine WL.q (oq_move rfl) rfl rfl rfl ?_
              refine WL.q (oq_bytesStr hsv6 (.tail _ (.tail _ (.tail _ (.head _)))) Tryd.underlying9 Tryd.underlying23 Tryd.underlying5 rfl) rfl rfl rfl ?_
              refine WL.q (oq_seql rfl rfl) rfl rfl rfl ?_
              refine WL.q (oq_move rfl) rfl rfl rfl ?_
              refine WL.split 63 rfl (fun s9_17 => ?_) (fun s9_17 => ?_)
              ·
                try simp only [Z1, Z2, Z3, Z4, Z5, Z6, Z7, Z8, Z9, Z0] at s9_17
                refine WL.q (oq_move rfl) rfl rfl rfl ?_
                refine WL.q (oq_bytesStr hsv7 (.tail _ (.tail _ (.head _))) Tryd.underlying9 Tryd.underlying23 Tryd.underlying5 rfl) rfl rfl rfl ?_
                refine WL.q (oq_move rfl) rfl rfl rfl ?_
                refine WL.q (oq_bytesStr hsv8 (.head _) Tryd.underlying9 Tryd.underlying23 Tryd.underlying5 rfl) rfl rfl rfl ?_
                refine WL.q (oq_seql rfl rfl) rfl rfl rfl ?_
                refine WL.q (oq_pick_t rfl rfl) rfl rfl rfl ?_
                refine WL.q (oq_pick_f rfl rfl) rfl rfl rfl ?_
                refine WL.q (oq_pick_t rfl rfl) rfl rfl rfl ?_
                refine WL.q (oq_move rfl) rfl rfl rfl ?_
                refine WL.split 72 rfl (fun s9_26 => ?_) (fun s9_26 => ?_)
                ·
                  try simp only [Z1, Z2, Z3, Z4, Z5, Z6, Z7, Z8, Z9, Z0] at s9_26
                  refine WL.qc (oq_call (vAwake) call7 rfl) rfl rfl rfl ?_
                  refine WL.q (oq_pick_t rfl rfl) rfl rfl rfl ?_
                  refine WL.q (oq_assign rfl) rfl rfl rfl ?_
                  refine WL.nil (WE.then_normal (WC.sub (fr' := [(2, _)]) ?_ ⟨rfl, trivial⟩))
                  refine WC.ret ?_
                  refine WE.forget hN8_2 ?_
                  refine WE.f1 ?_
                  refine WE.forget hN7_2 ?_
                  refine WE.f1 ?_
                  refine WE.forget hN6_1 ?_
                  refine WE.f1 ?_
                  refine WE.forget hN5_1 ?_
                  refine WE.f1 ?_
                  refine WE.lose hxb ?_
                  refine WE.endR (.inl rfl) (res1 Tryd.results3 rfl) ?_
                  -- end 4
                  first | rfl | (exfalso; simp_all; done) | (cases l.any badH <;> simp_all)
                ·
                  try simp only [Z1, Z2, Z3, Z4, Z5, Z6, Z7, Z8, Z9, Z0] at s9_26
                  refine WL.skip rfl rfl rfl ?_
                  refine WL.q (oq_pick_f rfl rfl) rfl rfl rfl ?_
                  refine WL.q (oq_assign rfl) rfl rfl rfl ?_
                  refine WL.nil (WE.then_normal (WC.sub (fr' := [(2, _)]) ?_ ⟨rfl, trivial⟩))
                  refine WC.ret ?_
                  refine WE.forget hN8_2 ?_
                  refine WE.f1 ?_
                  refine WE.forget hN7_2 ?_
                  refine WE.f1 ?_
                  refine WE.forget hN6_1 ?_
                  refine WE.f1 ?_
                  refine WE.forget hN5_1 ?_
                  refine WE.f1 ?_
                  refine WE.lose hxb ?_
                  refine WE.endR (.inl rfl) (res1 Tryd.results3 rfl) ?_
                  -- end 5
                  first | rfl | (exfalso; simp_all; done) | (cases l.any badH <;> simp_all)
              ·
                try simp only [Z1, Z2, Z3, Z4, Z5, Z6, Z7, Z8, Z9, Z0] at s9_17
                refine WL.skip rfl rfl rfl ?_
                refine WL.skip rfl rfl rfl ?_
                refine WL.skip rfl rfl rfl ?_
                refine WL.skip rfl rfl rfl ?_
                refine WL.skip rfl rfl rfl ?_
                refine WL.q (oq_pick_f rfl rfl) rfl rfl rfl ?_
                refine WL.q (oq_pick_f rfl rfl) rfl rfl rfl ?_
                refine WL.q (oq_pick_t rfl rfl) rfl rfl rfl ?_
                refine WL.q (oq_move rfl) rfl rfl rfl ?_
                refine WL.skip rfl rfl rfl ?_
                refine WL.q (oq_pick_f rfl rfl) rfl rfl rfl ?_
                refine WL.q (oq_assign rfl) rfl rfl rfl ?_
                refine WL.nil (WE.then_normal (WC.sub (fr' := [(2, _)]) ?_ ⟨rfl, trivial⟩))
                refine WC.ret ?_
                refine WE.forget hN8_2 ?_
                refine WE.f1 ?_
                refine WE.forget hN7_2 ?_
                refine WE.f1 ?_
                refine WE.forget hN6_1 ?_
                refine WE.f1 ?_
                refine WE.forget hN5_1 ?_
                refine WE.f1 ?_
                refine WE.lose hxb ?_
                refine WE.endR (.inl rfl) (res1 Tryd.results3 rfl) ?_
                -- end 6
                first | rfl | (exfalso; simp_all; done) | (cases l.any badH <;> simp_all)
          ·
            try simp only [Z1, Z2, Z3, Z4, Z5, Z6, Z7, Z8, Z9, Z0] at s9_8
            refine WL.skip rfl rfl rfl ?_
            refine WL.skip rfl rfl rfl ?_
            refine WL.skip rfl rfl rfl ?_
            refine WL.skip rfl rfl rfl ?_
            refine WL.skip rfl rfl rfl ?_
            refine WL.skip rfl rfl rfl ?_
            refine WL.skip rfl rfl rfl ?_
            refine WL.skip rfl rfl rfl ?_
            refine WL.skip rfl rfl rfl ?_
            refine WL.skip rfl rfl rfl ?_
            refine WL.skip rfl rfl rfl ?_
            refine WL.skip rfl rfl rfl ?_
            refine WL.skip rfl rfl rfl ?_
            refine WL.skip rfl rfl rfl ?_
            refine WL.skip rfl rfl rfl ?_
            refine WL.skip rfl rfl rfl ?_
            refine WL.q (oq_pick_f rfl rfl) rfl rfl rfl ?_
            refine WL.q (oq_move rfl) rfl rfl rfl ?_
            refine WL.skip rfl rfl rfl ?_
            refine WL.q (oq_pick_f rfl rfl) rfl rfl rfl ?_
            refine WL.q (oq_assign rfl) rfl rfl rfl ?_
            refine WL.nil (WE.then_normal (WC.sub (fr' := [(2, _)]) ?_ ⟨rfl, trivial⟩))
            refine WC.ret ?_
            refine WE.forget hN8_2 ?_
            refine WE.f1 ?_
            refine WE.forget hN7_2 ?_
            refine WE.f1 ?_
            refine WE.forget hN6_1 ?_
            refine WE.f1 ?_
            refine WE.forget hN5_1 ?_
            refine WE.f1 ?_
            refine WE.lose hxb ?_
            refine WE.endR (.inl rfl) (res1 Tryd.results3 rfl) ?_
            -- end 7
            first | rfl | (exfalso; simp_all; done) | (cases l.any badH <;> simp_all)
        ·
          try simp only [Z1, Z2, Z3, Z4, Z5, Z6, Z7, Z8, Z9, Z0] at s9_3
          refine WL.skip rfl rfl rfl ?_
          refine WL.skip rfl rfl rfl ?_
          refine WL.skip rfl rfl rfl ?_
          refine WL.q (oq_pick_f rfl rfl) rfl rfl rfl ?_
          refine WL.q (oq_move rfl) rfl rfl rfl ?_
          refine WL.skip rfl rfl rfl ?_
          refine WL.skip rfl rfl rfl ?_
          refine WL.skip rfl rfl rfl ?_
          refine WL.skip rfl rfl rfl ?_
          refine WL.skip rfl rfl rfl ?_
          refine WL.skip rfl rfl rfl ?_
          refine WL.skip rfl rfl rfl ?_
          refine WL.skip rfl rfl rfl ?_
          refine WL.skip rfl rfl rfl ?_
          refine WL.skip rfl rfl rfl ?_
          refine WL.skip rfl rfl rfl ?_
          refine WL.skip rfl rfl rfl ?_
          refine WL.skip rfl rfl rfl ?_
          refine WL.skip rfl rfl rfl ?_
          refine WL.skip rfl rfl rfl ?_
          refine WL.skip rfl rfl rfl ?_
          refine WL.q (oq_pick_f rfl rfl) rfl rfl rfl ?_
          refine WL.q (oq_move rfl) rfl rfl rfl ?_
          refine WL.skip rfl rfl rfl ?_
          refine WL.q (oq_pick_f rfl rfl) rfl rfl rfl ?_
          refine WL.q (oq_assign rfl) rfl rfl rfl ?_
          refine WL.nil (WE.then_normal (WC.sub (fr' := [(2, _)]) ?_ ⟨rfl, trivial⟩))
          refine WC.ret ?_
          refine WE.forget hN8_2 ?_
          refine WE.f1 ?_
          refine WE.forget hN7_2 ?_
          refine WE.f1 ?_
          refine WE.forget hN6_1 ?_
          refine WE.f1 ?_
          refine WE.forget hN5_1 ?_
          refine WE.f1 ?_
          refine WE.lose hxb ?_
          refine WE.endR (.inl rfl) (res1 Tryd.results3 rfl) ?_
          -- end 8
          first | rfl | (exfalso; simp_all; done) | (cases l.any badH <;> simp_all)

end ES
end Go.Proofs.YtodlhaghdplclaaDoor
