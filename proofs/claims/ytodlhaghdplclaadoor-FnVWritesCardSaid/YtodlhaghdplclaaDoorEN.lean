/- A message, headers: as bytes. -/
import Derived.Test.YtodlhaghdplclaaDoorEM
namespace Go.Proofs.YtodlhaghdplclaaDoor
open Go Go.RowKit V EA EB EC ED EE EF EG EH EI EJ EK EL EM
set_option linter.unusedSimpArgs false
set_option linter.unusedVariables false
set_option maxRecDepth 10000
namespace EN
theorem call13 : Callable Tryd.prog 13 := ⟨_, Tryd.func13, rfl, by kernel_rfl⟩
theorem call14 : Callable Tryd.prog 14 := ⟨_, Tryd.func14, rfl, by kernel_rfl⟩
theorem call15 : Callable Tryd.prog 15 := ⟨_, Tryd.func15, rfl, by kernel_rfl⟩
theorem call16 : Callable Tryd.prog 16 := ⟨_, Tryd.func16, rfl, by kernel_rfl⟩
theorem call19 : Callable Tryd.prog 19 := ⟨_, Tryd.func19, rfl, by kernel_rfl⟩
theorem flat22 : Flat Tryd.prog 22 := ⟨_, Tryd.underlying22, by simp⟩
theorem flat23 : Flat Tryd.prog 23 := ⟨_, Tryd.underlying23, by simp⟩
theorem ty22 : Ty Tryd.prog 22 (.slice none 0 0) 1 24 := ty_of (by kernel_rfl)
theorem ty23 : Ty Tryd.prog 23 (.slice none 0 0) 1 24 := ty_of (by kernel_rfl)
theorem ty39 : Ty Tryd.prog 39 (.agg #[(.slice none 0 0), (.int .i64 0), (.int .i8 0)]) 3 40 := ty_of (by kernel_rfl)
theorem ty50 : Ty Tryd.prog 50 (.agg #[(.slice none 0 0), (.slice none 0 0)]) 2 48 := ty_of (by kernel_rfl)
theorem conc45 : Conc Tryd.prog 45 := ⟨_, Tryd.underlying45, by simp⟩
theorem str50 : Str Tryd.prog 50 #[(0, 1), (1, 1)] := ⟨_, Tryd.underlying50, fun w => by kernel_rfl⟩
theorem fld25_0 : Fld Tryd.prog 25 0 0 22 := fld_of Tryd.underlying25 rfl rfl rfl ty22 (by decide)
theorem fld25_1 : Fld Tryd.prog 25 1 1 23 := fld_of Tryd.underlying25 rfl rfl rfl ty23 (by decide)

/-- an encoder's group -/
def EncG (base eb : Nat) (X : Hp) : Prop := ∃ b1 b2 B1 B2 a1 a2, X = (EncB eb b1 b2 ++ B1) ++ B2 ∧ BufG base b1 a1 B1 ∧ BufG base b2 a2 B2 ∧ base ≤ b1 ∧ base ≤ b2
theorem bufG_fresh {base bb : Nat} {acc : List UInt8} {G : Hp} (h : BufG base bb acc G) (hb : base ≤ bb) : ∀ b o, (b, o) ∈ G → base ≤ b := by
  obtain ⟨v, lr, A, rfl, h⟩ := h
  exact fresh_cat (fresh1 hb) h.fresh
theorem EncG.fresh {base eb : Nat} {X : Hp} (h : EncG base eb X) (he : base ≤ eb) : ∀ b o, (b, o) ∈ X → base ≤ b := by
  obtain ⟨b1, b2, B1, B2, a1, a2, rfl, h1, h2, g1, g2⟩ := h
  exact fresh_cat (fresh_cat (fresh1 he) (bufG_fresh h1 g1)) (bufG_fresh h2 g2)
theorem bufG_nil (base bb : Nat) (lr : Int) : BufG base bb [] (BB bb (.slice none 0 0) lr) := ⟨_, lr, [], rfl, .inl ⟨rfl, rfl, rfl⟩⟩
theorem encodeG (base eb ob : Nat) (acc0 : List UInt8) (EG O : Hp) (hE : EncG base eb EG) (hO : BufG base ob acc0 O) (vh : Value) (HZ : Hp) (l : List HV) (hh : HsOk l vh HZ) (hok : okH l) (hn : l.length ≤ 1000) (hsz : szL l ≤ 100000) (vp : Value) (Pg : Hp) (data : List UInt8) (hrp : RdS 1 vp Pg data.length (bytesV data)) (hpl : data.length ≤ 50000) (hal : acc0.length ≤ 100000) :
    FnW Tryd.prog 14 [Pt eb 0, .iface 45 (Pt ob 0), .agg #[vh, vp]] base [EG, O, HZ, Pg] (fun w Hs => ∃ EG2 O2 c, Hs = [EG2, O2, HZ, Pg] ∧ EncG base eb EG2 ∧ BufG base ob c O2 ∧ (w = .nilIface ∨ ∃ k u, w = .iface k u) ∧ (nilI w = true → l.any badH = false ∧ BufG base ob (acc0 ++ msgB l data) O2) ∧ (nilI w = false → l.any badH = true)) := by
  obtain ⟨b1, b2, B1, B2, a1, a2, rfl, h1, h2, g1, g2⟩ := hE
  obtain ⟨ps, M, Z, rfl, hr, hp⟩ := hh
  refine fw_perm (F := []) (encode base eb b1 b2 ob a1 a2 acc0 B1 B2 O h1 h2 hO vh M Z l ps hr hp hok hn hsz vp Pg data hrp hpl hal) (by simp) ?_
  rintro w Hs ⟨B1', B2', O', c1, c2, c3, rfl, hb1, hb2, hO2, h⟩
  cases hb : l.any badH with
  | true =>
    rw [hb] at h
    obtain ⟨k, e, rfl⟩ := h
    exact ⟨_, ⟨(EncB eb b1 b2 ++ B1') ++ B2', O', c3, rfl, ⟨_, _, _, _, _, _, rfl, hb1, hb2, g1, g2⟩, hO2, (.inr ⟨_, _, rfl⟩), (fun h => nomatch h), (fun _ => rfl)⟩, by simp⟩
  | false =>
    rw [hb] at h
    obtain ⟨rfl, rfl⟩ := h
    exact ⟨_, ⟨(EncB eb b1 b2 ++ B1') ++ B2', O', _, rfl, ⟨_, _, _, _, _, _, rfl, hb1, hb2, g1, g2⟩, hO2, (.inl rfl), (fun _ => ⟨rfl, hO2⟩), (fun h => nomatch h)⟩, by simp⟩
/-- bytes, or none -/
def BytesR (bad : Bool) (l : List UInt8) (w : Value) (N : Hp) : Prop := ∃ sv, w = .tuple #[sv, .bool (!bad)] ∧ RdS 1 sv N (if bad then [] else l).length (bytesV (if bad then [] else l))
theorem bytesR_bad {l : List UInt8} {b : Bool} (h : b = true) : BytesR b l (.tuple #[.slice none 0 0, .bool false]) [] := by subst h; exact ⟨_, rfl, rfl, .inl ⟨rfl, _, _, rfl⟩⟩
theorem encHeadersG (base ob : Nat) (O : Hp) (hO : BufG base ob [] O) (vh : Value) (HZ : Hp) (l : List HV) (hh : HsOk l vh HZ) (hok : okH l) (hn : l.length ≤ 1000) (hsz : szL l ≤ 100000) :
    FnW Tryd.prog 19 [.iface 45 (Pt ob 0), vh] base [O, HZ] (fun w Hs => ∃ O2 c, Hs = [O2, HZ] ∧ BufG base ob c O2 ∧ (w = .nilIface ∨ ∃ k u, w = .iface k u) ∧ (nilI w = true → l.any badH = false ∧ BufG base ob (hdrs l) O2) ∧ (nilI w = false → l.any badH = true)) := by
  obtain ⟨ps, M, Z, rfl, hr, hp⟩ := hh
  refine fw_perm (F := []) (encHeaders base ob [] O hO vh M Z l ps hr hp hok hn (by rw [List.length_nil]; omega)) (by simp) ?_
  intro w Hs h
  obtain ⟨G', c, rfl, h0, h1, h2, h3⟩ := hdR_split h
  exact ⟨_, ⟨G', c, rfl, h0, h1, h2, fun hb => (h3 hb).1⟩, by simp⟩
/-- given.example/pub-tinwright/impl.VHeaders -/
theorem vHeaders (vh : Value) (A : Hp) (l : List HV) (hr : RdS 5 vh A l.length (recsV HV.row l)) (hok : okH l) (hn : l.length ≤ 1000) (hsz : szL l ≤ 100000) : FnA Tryd.prog 10 [vh] A (BytesR (l.any badH) (hdrs l)) := by
  refine FnA.enter (n := 11) Tryd.func10 rfl rfl fun w0 => ?_
  refine WC.sub (fr' := [(0, _)]) ?_ ⟨rfl, trivial⟩
  refine WC.seq (WC.region ?_)
  refine WL.q (oq_assign rfl) rfl rfl rfl ?_
  refine WL.q (oq_assign rfl) rfl rfl rfl ?_
  refine WL.nil (WE.then_normal (WC.sub (fr' := [(0, _)]) ?_ ⟨rfl, trivial⟩))
  refine WC.seq (WC.region ?_)
  refine WL.alloc ty39 rfl rfl fun ob hob => ?_
  refine WL.nil (WE.then_normal (WC.sub (fr' := [(0, _), (4, _)]) ?_ ⟨rfl, rfl, trivial⟩))
  refine WC.seq (WC.seq (WC.region ?_))
  refine WL.q (oq_makeI conc45 rfl) rfl rfl rfl ?_
  refine WL.q (oq_move rfl) rfl rfl rfl ?_
  refine WL.f1 ?_
  refine WL.callA (headersFor vh A l hr hok hn) call15 rfl rfl rfl fun v2_2 N2_2 hR2_2 hN2_2 => ?_
  refine WL.f2 ?_
  refine WL.callW2 (encHeadersG _ ob _ (bufG_nil _ ob 0) _ _ l hR2_2 hok hn hsz) call19 rfl rfl rfl fun v2_3 Hs2_3 hR2_3 => ?_
  obtain ⟨O2, c, rfl, hOc, hei, he0, he1⟩ := hR2_3
  refine WL.to2 ?_
  refine WL.q (oq_ineq Tryd.underlying41 rfl (hei)) rfl rfl rfl ?_
  refine WL.nil (WE.then_normal (WC.sub (fr' := [(4, _), (9, _)]) ?_ ⟨rfl, rfl, trivial⟩))
  refine WC.cond rfl (fun q2 => ?_) (fun q2 => ?_)
  ·
    try simp only [Z1, Z2, Z3, Z4, Z5, Z6, Z7, Z8, Z9, Z0] at q2
    refine WC.seq (WC.region ?_)
    refine WL.q (oq_assign rfl) rfl rfl rfl ?_
    refine WL.q (oq_assign rfl) rfl rfl rfl ?_
    refine WL.nil (WE.then_normal (WC.sub (fr' := [(2, _), (3, _)]) ?_ ⟨rfl, rfl, trivial⟩))
    refine WC.ret (WE.then_ret ?_)
    refine WE.forget (bufG_fresh hOc hob) ?_
    refine WE.forget hN2_2 ?_
    refine WE.add0 ?_
    refine WE.endA (.inl rfl) (res2 Tryd.results10 rfl rfl) ?_ fresh0
    -- end 0
    exact bytesR_bad (he1 (by simpa using q2))
  ·
    try simp only [Z1, Z2, Z3, Z4, Z5, Z6, Z7, Z8, Z9, Z0] at q2
    refine WC.skip (WE.then_normal (WC.sub (fr' := [(4, _)]) ?_ ⟨rfl, trivial⟩))
    refine WC.seq ?_
    obtain ⟨hnb, hO2⟩ := he0 (by simpa using q2)
    obtain ⟨bv, hbf, hbr⟩ := bytesG _ ob _ O2 hO2
    refine WC.region ?_
    refine WL.qc (oq_callRm (hbf) (.head _) call16 rfl) rfl rfl rfl ?_
    refine WL.q (oq_assign rfl) rfl rfl rfl ?_
    refine WL.q (oq_assign rfl) rfl rfl rfl ?_
    refine WL.nil (WE.then_normal (WC.sub (fr' := [(2, _), (3, _)]) ?_ ⟨rfl, rfl, trivial⟩))
    refine WC.ret ?_
    refine WE.f1 ?_
    refine WE.forget hN2_2 ?_
    refine WE.endA (.inl rfl) (res2 Tryd.results10 rfl rfl) ?_ ((bufG_fresh hOc hob))
    -- end 1
    exact ⟨_, by rw [hnb]; rfl, by rw [hnb]; exact hbr⟩

/-- given.example/pub-tinwright/impl.VEncode -/
theorem vEncode (vh : Value) (A : Hp) (l : List HV) (hr : RdS 5 vh A l.length (recsV HV.row l)) (hok : okH l) (hn : l.length ≤ 1000) (hsz : szL l ≤ 100000) (pp : Option Addr) (pc : Nat) (data : List UInt8) (hrp : RdS 1 (.slice pp data.length pc) A data.length (bytesV data)) (hpl : data.length ≤ 50000) : FnA Tryd.prog 8 [.agg #[vh, .slice pp data.length pc]] A (BytesR (l.any badH) (msgB l data)) := by
  refine FnA.enter (n := 16) Tryd.func8 rfl rfl fun w0 => ?_
  refine WC.sub (fr' := [(0, _)]) ?_ ⟨rfl, trivial⟩
  refine WC.seq (WC.region ?_)
  refine WL.box rfl rfl rfl fun xb hxb => ?_
  refine WL.q (oq_assign rfl) rfl rfl rfl ?_
  refine WL.q (oq_assign rfl) rfl rfl rfl ?_
  refine WL.nil (WE.then_normal (WC.sub (fr' := [(1, _)]) ?_ ⟨rfl, trivial⟩))
  refine WC.seq (WC.region ?_)
  refine WL.alloc ty39 rfl rfl fun ob hob => ?_
  refine WL.nil (WE.then_normal (WC.sub (fr' := [(1, _), (4, _)]) ?_ ⟨rfl, rfl, trivial⟩))
  refine WC.seq (WC.seq ?_)
  refine WC.gate 8 ([(xb, .cells #[vh, .slice pp data.length pc] 25 (0, 0))]) (by kernel_rfl) ?_
  refine WG.q 1 [] rfl (.tail _ (.head _)) (fun w0 => oq_makeI conc45 rfl) rfl rfl rfl ?_
  refine WG.q 2 [4, 3] rfl (.tail _ (.head _)) (fun w0 => oq_fieldAddr fld25_0 rfl) rfl rfl rfl ?_
  refine WG.q 3 [4] rfl (.tail _ (.head _)) (fun w0 => oq_load flat22 rfl (.head _) (List.mem_singleton.2 rfl) rfl) rfl rfl rfl ?_
  refine WG.q 5 [7, 6] rfl (.tail _ (.head _)) (fun w0 => oq_fieldAddr fld25_1 rfl) rfl rfl rfl ?_
  refine WG.q 6 [7] rfl (.tail _ (.head _)) (fun w0 => oq_load flat23 rfl (.head _) (List.mem_singleton.2 rfl) rfl) rfl rfl rfl ?_
  refine WG.step (i := 0) (by kernel_rfl) rfl ?_
  refine WL.callA0 (newEncoder) call13 rfl rfl rfl fun v2_0 N2_0 hR2_0 hN2_0 => ?_
  obtain ⟨eb, b1, b2, rfl, rfl⟩ := hR2_0
  have heb := hN2_0 eb _ (List.mem_append_left _ (List.mem_append_left _ (List.mem_singleton.2 rfl)))
  have hb1 := hN2_0 b1 _ (List.mem_append_left _ (List.mem_append_right _ (List.mem_singleton.2 rfl)))
  have hb2 := hN2_0 b2 _ (List.mem_append_right _ (List.mem_singleton.2 rfl))
  refine WL.nil ?_
  refine WE.toG (.tail _ (.tail _ (.head _))) ?_
  refine WG.step (i := 4) (by kernel_rfl) rfl ?_
  refine WL.f3 ?_
  refine WL.callA (headersFor vh A l hr hok hn) call15 rfl rfl rfl fun v2_4 N2_4 hR2_4 hN2_4 => ?_
  obtain ⟨ps0, M0, Z0, hN0, hr0, hp0⟩ := hR2_4
  obtain ⟨pv, cv, rfl⟩ := hr0.shape
  have hR2_4 : HsOk l (.slice pv ps0.length cv) N2_4 := ⟨ps0, M0, Z0, hN0, hr0, hp0⟩
  refine WL.nil ?_
  refine WE.toG (.tail _ (.tail _ (.tail _ (.tail _ (.head _))))) ?_
  refine WG.q 7 [] rfl (.tail _ (.tail _ (.tail _ (.tail _ (.head _))))) (fun w0 => oq_build #[_, _] str50 ty50 rfl rfl) rfl rfl rfl ?_
  refine WG.step (i := 8) (by kernel_rfl) rfl ?_
  refine WL.f1 ?_
  refine WL.f1 ?_
  refine WL.f3 ?_
  refine WL.f3 ?_
  refine WL.callW4 (encodeG _ eb ob [] _ _ ⟨b1, b2, _, _, [], [], rfl, bufG_nil _ b1 0, bufG_nil _ b2 0, hb1, hb2⟩ (bufG_nil _ ob 0) _ _ l hR2_4 hok hn hsz (.slice pp data.length pc) A data hrp hpl (by simp)) call14 rfl rfl rfl fun v2_8 Hs2_8 hR2_8 => ?_
  obtain ⟨EG2, O2, c, rfl, hEG, hOc, hei, he0, he1⟩ := hR2_8
  refine WL.to4 ?_
  refine WL.nil ?_
  refine WE.toG0 (by kernel_rfl) ?_
  refine WG.p 9 rfl (.inl (by kernel_rfl)) (fun w0 => oq_ineq Tryd.underlying41 rfl (hei)) rfl rfl rfl ?_
  refine WG.done (by kernel_rfl) ?_
  refine WE.then_normal (WC.sub (fr' := [(4, _), (14, _)]) ?_ ⟨rfl, rfl, trivial⟩)
  refine WC.cond rfl (fun q2 => ?_) (fun q2 => ?_)
  ·
    try simp only [Z1, Z2, Z3, Z4, Z5, Z6, Z7, Z8, Z9, Z0] at q2
    refine WC.seq (WC.region ?_)
    refine WL.q (oq_assign rfl) rfl rfl rfl ?_
    refine WL.q (oq_assign rfl) rfl rfl rfl ?_
    refine WL.nil (WE.then_normal (WC.sub (fr' := [(2, _), (3, _)]) ?_ ⟨rfl, rfl, trivial⟩))
    refine WC.ret (WE.then_ret ?_)
    refine WE.forget (hEG.fresh heb) ?_
    refine WE.forget (bufG_fresh hOc hob) ?_
    refine WE.forget hN2_4 ?_
    refine WE.f1 ?_
    refine WE.lose hxb ?_
    refine WE.add0 ?_
    refine WE.endA (.inl rfl) (res2 Tryd.results8 rfl rfl) ?_ fresh0
    -- end 0
    exact bytesR_bad (he1 (by simpa using q2))
  ·
    try simp only [Z1, Z2, Z3, Z4, Z5, Z6, Z7, Z8, Z9, Z0] at q2
    refine WC.skip (WE.then_normal (WC.sub (fr' := [(4, _)]) ?_ ⟨rfl, trivial⟩))
    refine WC.seq ?_
    obtain ⟨hnb, hO2⟩ := he0 (by simpa using q2)
    rw [List.nil_append] at hO2
    obtain ⟨bv, hbf, hbr⟩ := bytesG _ ob _ O2 hO2
    refine WC.region ?_
    refine WL.qc (oq_callRm (hbf) (.tail _ (.head _)) call16 rfl) rfl rfl rfl ?_
    refine WL.q (oq_assign rfl) rfl rfl rfl ?_
    refine WL.q (oq_assign rfl) rfl rfl rfl ?_
    refine WL.nil (WE.then_normal (WC.sub (fr' := [(2, _), (3, _)]) ?_ ⟨rfl, rfl, trivial⟩))
    refine WC.ret ?_
    refine WE.forget (hEG.fresh heb) ?_
    refine WE.f1 ?_
    refine WE.forget hN2_4 ?_
    refine WE.f2 ?_
    refine WE.lose hxb ?_
    refine WE.endA (.inl rfl) (res2 Tryd.results8 rfl rfl) ?_ ((bufG_fresh hOc hob))
    -- end 1
    exact ⟨_, by rw [hnb]; rfl, by rw [hnb]; exact hbr⟩

end EN
end Go.Proofs.YtodlhaghdplclaaDoor
