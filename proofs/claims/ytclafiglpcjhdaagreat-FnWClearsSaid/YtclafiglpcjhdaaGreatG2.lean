/- Metadata and the values of a stack, walked: what is put in and taken out. -/
import Derived.Test.YtclafiglpcjhdaaGreatG1
namespace Go.Proofs.YtclafiglpcjhdaaGreat
open Go Go.RowKit V GA G1
set_option linter.unusedSimpArgs false
set_option linter.unusedVariables false
set_option maxRecDepth 10000
namespace G2
theorem call21 : Callable Tryz.prog 21 := ⟨_, Tryz.func21, rfl, by kernel_rfl⟩
theorem call22 : Callable Tryz.prog 22 := ⟨_, Tryz.func22, rfl, by kernel_rfl⟩
theorem call23 : Callable Tryz.prog 23 := ⟨_, Tryz.func23, rfl, by kernel_rfl⟩
theorem flat20 : Flat Tryz.prog 20 := ⟨_, Tryz.underlying20, by simp⟩
theorem flat48 : Flat Tryz.prog 48 := ⟨_, Tryz.underlying48, by simp⟩
theorem flat72 : Flat Tryz.prog 72 := ⟨_, Tryz.underlying72, by simp⟩
theorem ty20 : Ty Tryz.prog 20 .nilIface 1 16 := ty_of (by kernel_rfl)
theorem ty48 : Ty Tryz.prog 48 (.map none) 1 8 := ty_of (by kernel_rfl)
theorem ty71 : Ty Tryz.prog 71 (.agg #[]) 0 0 := ty_of (by kernel_rfl)
theorem ty72 : Ty Tryz.prog 72 (.pointer none) 1 8 := ty_of (by kernel_rfl)
theorem conc71 : Conc Tryz.prog 71 := ⟨_, Tryz.underlying71, by simp⟩
theorem conc72 : Conc Tryz.prog 72 := ⟨_, Tryz.underlying72, by simp⟩
theorem str71 : Str Tryz.prog 71 #[] := ⟨_, Tryz.underlying71, fun w => by kernel_rfl⟩
theorem fld50_0 : Fld Tryz.prog 50 0 0 48 := fld_of Tryz.underlying50 rfl rfl rfl ty48 (by decide)
theorem fld97_0 : Fld Tryz.prog 97 0 0 20 := fld_of Tryz.underlying97 rfl rfl rfl ty20 (by decide)
theorem fld97_1 : Fld Tryz.prog 97 1 1 20 := fld_of Tryz.underlying97 rfl rfl rfl ty20 (by decide)
theorem fld97_2 : Fld Tryz.prog 97 2 2 72 := fld_of Tryz.underlying97 rfl rfl rfl ty72 (by decide)

def valS (r : List (Nat × WP)) (k : List UInt8) : Value := optI 9 (lk (r.map Prod.snd) k)
theorem valS_hit {b : Nat} {p : WP} {r : List (Nat × WP)} {k : List UInt8} (h : k = p.k) : valS ((b, p) :: r) k = KI p.v := by
  unfold valS
  rw [List.map_cons, lk_cons, if_pos h]; rfl
theorem valS_miss {b : Nat} {p : WP} {r : List (Nat × WP)} {k : List UInt8} (h : ¬ k = p.k) : valS ((b, p) :: r) k = valS r k := by
  unfold valS
  rw [List.map_cons, lk_cons, if_neg h]
/-- given.example/pub-tinwright/pub/smithy/middleware.WithStackValue -/
theorem with0 (kx : TypeId) (vx : Value) (r : List (Nat × WP)) (k v : List UInt8) (hx : CX kx vx r) (hr : r = []) : FnA Tryz.prog 15 [.iface kx vx, KI k, KI v] [] (fun x N => ∃ b, x = .iface 95 (.agg #[.iface kx vx, KEY, .iface 72 (Pt b 0)]) ∧ N = [(b, .cells #[KI k, KI v, par r] 97 (0, 0))]) := by
  obtain ⟨f, hinv, h0, hcl⟩ := ctxV hx
  obtain rfl := hr
  refine FnA.enter0 (n := 27) Tryz.func15 rfl rfl fun w0 => ?_
  refine WC.sub (fr' := [(0, _), (1, _), (2, _)]) ?_ ⟨rfl, rfl, rfl, trivial⟩
  refine WC.seq (WC.region ?_)
  refine WL.q (oq_assign rfl) rfl rfl rfl ?_
  refine WL.nil (WE.then_normal (WC.sub (fr' := [(0, _), (1, _), (2, _)]) ?_ ⟨rfl, rfl, rfl, trivial⟩))
  refine WC.seq (WC.region ?_)
  refine WL.q (oq_move rfl) rfl rfl rfl ?_
  refine WL.q (oq_build #[] str71 ty71 rfl rfl) rfl rfl rfl ?_
  refine WL.q (oq_makeI conc71 rfl) rfl rfl rfl ?_
  refine WL.callWE (fun a w hf => ent_inv1 hinv rfl rfl hf w) (h0.toW) rfl rfl rfl rfl fun v1_3 Hs1_3 hR1_3 => ?_
  obtain ⟨rfl, rfl⟩ := hR1_3
  refine WL.q (oq_askNil conc72 ty72 rfl) rfl rfl rfl ?_
  refine WL.q (oq_move rfl) rfl rfl rfl ?_
  refine WL.q (oq_extract rfl rfl) rfl rfl rfl ?_
  refine WL.q (oq_extract rfl rfl) rfl rfl rfl ?_
  refine WL.q (oq_assign rfl) rfl rfl rfl ?_
  refine WL.q (oq_assign rfl) rfl rfl rfl ?_
  refine WL.nil (WE.then_normal (WC.sub (fr' := [(0, _), (1, _), (2, _), (7, _)]) ?_ ⟨rfl, rfl, rfl, rfl, trivial⟩))
  refine WC.seq (WC.region ?_)
  refine WL.q (oq_move rfl) rfl rfl rfl ?_
  refine WL.q (oq_move rfl) rfl rfl rfl ?_
  refine WL.q (oq_move rfl) rfl rfl rfl ?_
  refine WL.callA0 (newVal ([]) k v) call22 rfl rfl rfl fun v2_3 N2_3 hR2_3 hN2_3 => ?_
  obtain ⟨b, rfl, rfl⟩ := hR2_3
  refine WL.q (oq_assign rfl) rfl rfl rfl ?_
  refine WL.nil (WE.then_normal (WC.sub (fr' := [(0, _), (7, _)]) ?_ ⟨rfl, rfl, trivial⟩))
  refine WC.seq (WC.region ?_)
  refine WL.q (oq_move rfl) rfl rfl rfl ?_
  refine WL.q (oq_build #[] str71 ty71 rfl rfl) rfl rfl rfl ?_
  refine WL.q (oq_makeI conc71 rfl) rfl rfl rfl ?_
  refine WL.q (oq_move rfl) rfl rfl rfl ?_
  refine WL.q (oq_makeI conc72 rfl) rfl rfl rfl ?_
  refine WL.qc (oq_call (withValue kx vx (71, .agg #[]) (72, Pt b 0)) call21 rfl) rfl rfl rfl ?_
  refine WL.q (oq_assign rfl) rfl rfl rfl ?_
  refine WL.nil (WE.then_normal (WC.sub (fr' := [(6, _)]) ?_ ⟨rfl, trivial⟩))
  refine WC.ret ?_
  refine WE.endA0 (.inl rfl) (res1 Tryz.results15 rfl) ?_ (hN2_3)
  -- end 0
  exact ⟨_, rfl, rfl⟩

/-- given.example/pub-tinwright/pub/smithy/middleware.WithStackValue -/
theorem with1 (kx : TypeId) (vx : Value) (r : List (Nat × WP)) (k v : List UInt8) (hx : CX kx vx r) (hr : ∃ b0 p0 r0, r = (b0, p0) :: r0) : FnA Tryz.prog 15 [.iface kx vx, KI k, KI v] [] (fun x N => ∃ b, x = .iface 95 (.agg #[.iface kx vx, KEY, .iface 72 (Pt b 0)]) ∧ N = [(b, .cells #[KI k, KI v, par r] 97 (0, 0))]) := by
  obtain ⟨f, hinv, h0, hcl⟩ := ctxV hx
  obtain ⟨b0, p0, r0, rfl⟩ := hr
  refine FnA.enter0 (n := 27) Tryz.func15 rfl rfl fun w0 => ?_
  refine WC.sub (fr' := [(0, _), (1, _), (2, _)]) ?_ ⟨rfl, rfl, rfl, trivial⟩
  refine WC.seq (WC.region ?_)
  refine WL.q (oq_assign rfl) rfl rfl rfl ?_
  refine WL.nil (WE.then_normal (WC.sub (fr' := [(0, _), (1, _), (2, _)]) ?_ ⟨rfl, rfl, rfl, trivial⟩))
  refine WC.seq (WC.region ?_)
  refine WL.q (oq_move rfl) rfl rfl rfl ?_
  refine WL.q (oq_build #[] str71 ty71 rfl rfl) rfl rfl rfl ?_
  refine WL.q (oq_makeI conc71 rfl) rfl rfl rfl ?_
  refine WL.callWE (fun a w hf => ent_inv1 hinv rfl rfl hf w) (h0.toW) rfl rfl rfl rfl fun v1_3 Hs1_3 hR1_3 => ?_
  obtain ⟨rfl, rfl⟩ := hR1_3
  refine WL.q (oq_askC conc72 rfl) rfl rfl rfl ?_
  refine WL.q (oq_move rfl) rfl rfl rfl ?_
  refine WL.q (oq_extract rfl rfl) rfl rfl rfl ?_
  refine WL.q (oq_extract rfl rfl) rfl rfl rfl ?_
  refine WL.q (oq_assign rfl) rfl rfl rfl ?_
  refine WL.q (oq_assign rfl) rfl rfl rfl ?_
  refine WL.nil (WE.then_normal (WC.sub (fr' := [(0, _), (1, _), (2, _), (7, _)]) ?_ ⟨rfl, rfl, rfl, rfl, trivial⟩))
  refine WC.seq (WC.region ?_)
  refine WL.q (oq_move rfl) rfl rfl rfl ?_
  refine WL.q (oq_move rfl) rfl rfl rfl ?_
  refine WL.q (oq_move rfl) rfl rfl rfl ?_
  refine WL.callA0 (newVal ((b0, p0) :: r0) k v) call22 rfl rfl rfl fun v2_3 N2_3 hR2_3 hN2_3 => ?_
  obtain ⟨b, rfl, rfl⟩ := hR2_3
  refine WL.q (oq_assign rfl) rfl rfl rfl ?_
  refine WL.nil (WE.then_normal (WC.sub (fr' := [(0, _), (7, _)]) ?_ ⟨rfl, rfl, trivial⟩))
  refine WC.seq (WC.region ?_)
  refine WL.q (oq_move rfl) rfl rfl rfl ?_
  refine WL.q (oq_build #[] str71 ty71 rfl rfl) rfl rfl rfl ?_
  refine WL.q (oq_makeI conc71 rfl) rfl rfl rfl ?_
  refine WL.q (oq_move rfl) rfl rfl rfl ?_
  refine WL.q (oq_makeI conc72 rfl) rfl rfl rfl ?_
  refine WL.qc (oq_call (withValue kx vx (71, .agg #[]) (72, Pt b 0)) call21 rfl) rfl rfl rfl ?_
  refine WL.q (oq_assign rfl) rfl rfl rfl ?_
  refine WL.nil (WE.then_normal (WC.sub (fr' := [(6, _)]) ?_ ⟨rfl, trivial⟩))
  refine WC.ret ?_
  refine WE.endA0 (.inl rfl) (res1 Tryz.results15 rfl) ?_ (hN2_3)
  -- end 0
  exact ⟨_, rfl, rfl⟩

/-- (*given.example/pub-tinwright/pub/smithy/middleware.stackValues).Value -/
theorem val0 (b : Nat) (p : WP) (k : List UInt8) : FnR Tryz.prog 23 [Pt b 0, KI k] (svg [(b, p)]) (valS [(b, p)] k) := by
  refine FnR.enter (n := 26) Tryz.func23 rfl rfl fun w0 => ?_
  refine WC.sub (fr' := [(0, _), (1, _)]) ?_ ⟨rfl, rfl, trivial⟩
  refine WC.seq (WC.region ?_)
  refine WL.q (oq_assign rfl) rfl rfl rfl ?_
  refine WL.nil (WE.then_normal (WC.sub (fr' := [(0, _), (1, _)]) ?_ ⟨rfl, rfl, trivial⟩))
  refine WC.seq (WC.seq (WC.region ?_))
  refine WL.q (oq_move rfl) rfl rfl rfl ?_
  refine WL.q (oq_move rfl) rfl rfl rfl ?_
  refine WL.q (oq_nilCheck rfl) rfl rfl rfl ?_
  refine WL.q (oq_fieldAddr fld97_0 rfl) rfl rfl rfl ?_
  refine WL.q (oq_load flat20 rfl (.head _) (List.mem_cons_self) rfl) rfl rfl rfl ?_
  refine WL.q (oq_eqI (eqS k p.k) rfl rfl) rfl rfl rfl ?_
  refine WL.nil (WE.then_normal (WC.sub (fr' := [(0, _), (1, _), (10, _)]) ?_ ⟨rfl, rfl, rfl, trivial⟩))
  refine WC.cond rfl (fun q1 => ?_) (fun q1 => ?_)
  ·
    try simp only [Z1, Z2, Z3, Z4, Z5, Z6, Z7, Z8, Z9, Z0] at q1
    refine WC.seq (WC.region ?_)
    refine WL.q (oq_move rfl) rfl rfl rfl ?_
    refine WL.q (oq_nilCheck rfl) rfl rfl rfl ?_
    refine WL.q (oq_fieldAddr fld97_1 rfl) rfl rfl rfl ?_
    refine WL.q (oq_load flat20 rfl (.head _) (List.mem_cons_self) rfl) rfl rfl rfl ?_
    refine WL.q (oq_assign rfl) rfl rfl rfl ?_
    refine WL.nil (WE.then_normal (WC.sub (fr' := [(4, _)]) ?_ ⟨rfl, trivial⟩))
    refine WC.ret (WE.then_ret ?_)
    refine WE.endR (.inl rfl) (res1 Tryz.results23 rfl) ?_
    -- end 0
    exact (valS_hit q1).symm
  ·
    try simp only [Z1, Z2, Z3, Z4, Z5, Z6, Z7, Z8, Z9, Z0] at q1
    refine WC.skip (WE.then_normal (WC.sub (fr' := [(0, _), (1, _)]) ?_ ⟨rfl, rfl, trivial⟩))
    refine WC.seq (WC.seq (WC.region ?_))
    refine WL.q (oq_move rfl) rfl rfl rfl ?_
    refine WL.q (oq_nilCheck rfl) rfl rfl rfl ?_
    refine WL.q (oq_fieldAddr fld97_2 rfl) rfl rfl rfl ?_
    refine WL.q (oq_load flat72 rfl (.head _) (List.mem_cons_self) rfl) rfl rfl rfl ?_
    refine WL.q (oq_peql Tryz.underlying72 rfl rfl) rfl rfl rfl ?_
    refine WL.nil (WE.then_normal (WC.sub (fr' := [(0, _), (1, _), (19, _)]) ?_ ⟨rfl, rfl, rfl, trivial⟩))
    refine WC.cond rfl (fun q3 => ?_) (fun q3 => ?_)
    ·
      try simp only [Z1, Z2, Z3, Z4, Z5, Z6, Z7, Z8, Z9, Z0] at q3
      refine WC.seq (WC.region ?_)
      refine WL.q (oq_assign rfl) rfl rfl rfl ?_
      refine WL.nil (WE.then_normal (WC.sub (fr' := [(4, _)]) ?_ ⟨rfl, trivial⟩))
      refine WC.ret (WE.then_ret ?_)
      refine WE.endR (.inl rfl) (res1 Tryz.results23 rfl) ?_
      -- end 1
      rw [valS_miss q1]; rfl
    ·
      try simp only [Z1, Z2, Z3, Z4, Z5, Z6, Z7, Z8, Z9, Z0] at q3
      simp at q3

/-- (*given.example/pub-tinwright/pub/smithy/middleware.stackValues).Value -/
theorem val1 (b b2 : Nat) (p p2 : WP) (r : List (Nat × WP)) (k : List UInt8) (ih : FnR Tryz.prog 23 [Pt b2 0, KI k] (svg ((b2, p2) :: r)) (valS ((b2, p2) :: r) k)) : FnR Tryz.prog 23 [Pt b 0, KI k] (svg ((b, p) :: (b2, p2) :: r)) (valS ((b, p) :: (b2, p2) :: r) k) := by
  refine FnR.enter (n := 26) Tryz.func23 rfl rfl fun w0 => ?_
  refine WC.sub (fr' := [(0, _), (1, _)]) ?_ ⟨rfl, rfl, trivial⟩
  refine WC.seq (WC.region ?_)
  refine WL.q (oq_assign rfl) rfl rfl rfl ?_
  refine WL.nil (WE.then_normal (WC.sub (fr' := [(0, _), (1, _)]) ?_ ⟨rfl, rfl, trivial⟩))
  refine WC.seq (WC.seq (WC.region ?_))
  refine WL.q (oq_move rfl) rfl rfl rfl ?_
  refine WL.q (oq_move rfl) rfl rfl rfl ?_
  refine WL.q (oq_nilCheck rfl) rfl rfl rfl ?_
  refine WL.q (oq_fieldAddr fld97_0 rfl) rfl rfl rfl ?_
  refine WL.q (oq_load flat20 rfl (.head _) (List.mem_cons_self) rfl) rfl rfl rfl ?_
  refine WL.q (oq_eqI (eqS k p.k) rfl rfl) rfl rfl rfl ?_
  refine WL.nil (WE.then_normal (WC.sub (fr' := [(0, _), (1, _), (10, _)]) ?_ ⟨rfl, rfl, rfl, trivial⟩))
  refine WC.cond rfl (fun q1 => ?_) (fun q1 => ?_)
  ·
    try simp only [Z1, Z2, Z3, Z4, Z5, Z6, Z7, Z8, Z9, Z0] at q1
    refine WC.seq (WC.region ?_)
    refine WL.q (oq_move rfl) rfl rfl rfl ?_
    refine WL.q (oq_nilCheck rfl) rfl rfl rfl ?_
    refine WL.q (oq_fieldAddr fld97_1 rfl) rfl rfl rfl ?_
    refine WL.q (oq_load flat20 rfl (.head _) (List.mem_cons_self) rfl) rfl rfl rfl ?_
    refine WL.q (oq_assign rfl) rfl rfl rfl ?_
    refine WL.nil (WE.then_normal (WC.sub (fr' := [(4, _)]) ?_ ⟨rfl, trivial⟩))
    refine WC.ret (WE.then_ret ?_)
    refine WE.endR (.inl rfl) (res1 Tryz.results23 rfl) ?_
    -- end 0
    exact (valS_hit q1).symm
  ·
    try simp only [Z1, Z2, Z3, Z4, Z5, Z6, Z7, Z8, Z9, Z0] at q1
    refine WC.skip (WE.then_normal (WC.sub (fr' := [(0, _), (1, _)]) ?_ ⟨rfl, rfl, trivial⟩))
    refine WC.seq (WC.seq (WC.region ?_))
    refine WL.q (oq_move rfl) rfl rfl rfl ?_
    refine WL.q (oq_nilCheck rfl) rfl rfl rfl ?_
    refine WL.q (oq_fieldAddr fld97_2 rfl) rfl rfl rfl ?_
    refine WL.q (oq_load flat72 rfl (.head _) (List.mem_cons_self) rfl) rfl rfl rfl ?_
    refine WL.q (oq_peql Tryz.underlying72 rfl rfl) rfl rfl rfl ?_
    refine WL.nil (WE.then_normal (WC.sub (fr' := [(0, _), (1, _), (19, _)]) ?_ ⟨rfl, rfl, rfl, trivial⟩))
    refine WC.cond rfl (fun q3 => ?_) (fun q3 => ?_)
    ·
      try simp only [Z1, Z2, Z3, Z4, Z5, Z6, Z7, Z8, Z9, Z0] at q3
      simp at q3
    ·
      try simp only [Z1, Z2, Z3, Z4, Z5, Z6, Z7, Z8, Z9, Z0] at q3
      refine WC.skip (WE.then_normal (WC.sub (fr' := [(0, _), (1, _)]) ?_ ⟨rfl, rfl, trivial⟩))
      refine WC.seq (WC.region ?_)
      refine WL.q (oq_move rfl) rfl rfl rfl ?_
      refine WL.q (oq_nilCheck rfl) rfl rfl rfl ?_
      refine WL.q (oq_fieldAddr fld97_2 rfl) rfl rfl rfl ?_
      refine WL.q (oq_load flat72 rfl (.head _) (List.mem_cons_self) rfl) rfl rfl rfl ?_
      refine WL.q (oq_move rfl) rfl rfl rfl ?_
      refine WL.qc (oq_callRm (ih.wide (D := [(b, .cells #[KI p.k, KI p.v, Pt b2 0] 97 (0, 0))]) (List.perm_append_singleton _ _).symm) (.head _) call23 rfl) rfl rfl rfl ?_
      refine WL.q (oq_assign rfl) rfl rfl rfl ?_
      refine WL.nil (WE.then_normal (WC.sub (fr' := [(4, _)]) ?_ ⟨rfl, trivial⟩))
      refine WC.ret ?_
      refine WE.endR (.inl rfl) (res1 Tryz.results23 rfl) ?_
      -- end 1
      exact (valS_miss q1).symm


theorem valAll (k : List UInt8) : ∀ (r : List (Nat × WP)) (b : Nat) (p : WP), FnR Tryz.prog 23 [Pt b 0, KI k] (svg ((b, p) :: r)) (valS ((b, p) :: r) k)
  | [], b, p => val0 b p k
  | (b2, p2) :: r, b, p => val1 b b2 p p2 r k (valAll k r b2 p2)
/-- given.example/pub-tinwright/pub/smithy/middleware.GetStackValue -/
theorem gets0 (kx : TypeId) (vx : Value) (k : List UInt8) (hx : CX kx vx ([])) : FnR Tryz.prog 16 [.iface kx vx, KI k] (svg ([])) (valS ([]) k) := by
  obtain ⟨f, hinv, h0, hcl⟩ := ctxV hx
  refine FnR.enter (n := 20) Tryz.func16 rfl rfl fun w0 => ?_
  refine WC.sub (fr' := [(0, _), (1, _)]) ?_ ⟨rfl, rfl, trivial⟩
  refine WC.seq (WC.region ?_)
  refine WL.q (oq_assign rfl) rfl rfl rfl ?_
  refine WL.nil (WE.then_normal (WC.sub (fr' := [(0, _), (1, _)]) ?_ ⟨rfl, rfl, trivial⟩))
  refine WC.seq (WC.region ?_)
  refine WL.q (oq_move rfl) rfl rfl rfl ?_
  refine WL.q (oq_build #[] str71 ty71 rfl rfl) rfl rfl rfl ?_
  refine WL.q (oq_makeI conc71 rfl) rfl rfl rfl ?_
  refine WL.callWE (fun a w hf => ent_inv1 hinv rfl rfl hf w) (h0.toW) rfl rfl rfl rfl fun v1_3 Hs1_3 hR1_3 => ?_
  obtain ⟨rfl, rfl⟩ := hR1_3
  refine WL.q (oq_askNil conc72 ty72 rfl) rfl rfl rfl ?_
  refine WL.q (oq_move rfl) rfl rfl rfl ?_
  refine WL.q (oq_extract rfl rfl) rfl rfl rfl ?_
  refine WL.q (oq_extract rfl rfl) rfl rfl rfl ?_
  refine WL.q (oq_assign rfl) rfl rfl rfl ?_
  refine WL.q (oq_assign rfl) rfl rfl rfl ?_
  refine WL.nil (WE.then_normal (WC.sub (fr' := [(1, _), (5, _)]) ?_ ⟨rfl, rfl, trivial⟩))
  refine WC.seq (WC.seq (WC.region ?_))
  refine WL.q (oq_move rfl) rfl rfl rfl ?_
  refine WL.q (oq_peql Tryz.underlying72 rfl rfl) rfl rfl rfl ?_
  refine WL.nil (WE.then_normal (WC.sub (fr' := [(1, _), (5, _), (16, _)]) ?_ ⟨rfl, rfl, rfl, trivial⟩))
  refine WC.cond rfl (fun q2 => ?_) (fun q2 => ?_)
  ·
    try simp only [Z1, Z2, Z3, Z4, Z5, Z6, Z7, Z8, Z9, Z0] at q2
    refine WC.seq (WC.region ?_)
    refine WL.q (oq_assign rfl) rfl rfl rfl ?_
    refine WL.nil (WE.then_normal (WC.sub (fr' := [(4, _)]) ?_ ⟨rfl, trivial⟩))
    refine WC.ret (WE.then_ret ?_)
    refine WE.endR (.inl rfl) (res1 Tryz.results16 rfl) ?_
    -- end 0
    rfl
  ·
    try simp only [Z1, Z2, Z3, Z4, Z5, Z6, Z7, Z8, Z9, Z0] at q2
    simp at q2

/-- given.example/pub-tinwright/pub/smithy/middleware.GetStackValue -/
theorem gets1 (kx : TypeId) (vx : Value) (b : Nat) (p : WP) (r : List (Nat × WP)) (k : List UInt8) (hx : CX kx vx ((b, p) :: r)) : FnR Tryz.prog 16 [.iface kx vx, KI k] (svg ((b, p) :: r)) (valS ((b, p) :: r) k) := by
  obtain ⟨f, hinv, h0, hcl⟩ := ctxV hx
  refine FnR.enter (n := 20) Tryz.func16 rfl rfl fun w0 => ?_
  refine WC.sub (fr' := [(0, _), (1, _)]) ?_ ⟨rfl, rfl, trivial⟩
  refine WC.seq (WC.region ?_)
  refine WL.q (oq_assign rfl) rfl rfl rfl ?_
  refine WL.nil (WE.then_normal (WC.sub (fr' := [(0, _), (1, _)]) ?_ ⟨rfl, rfl, trivial⟩))
  refine WC.seq (WC.region ?_)
  refine WL.q (oq_move rfl) rfl rfl rfl ?_
  refine WL.q (oq_build #[] str71 ty71 rfl rfl) rfl rfl rfl ?_
  refine WL.q (oq_makeI conc71 rfl) rfl rfl rfl ?_
  refine WL.callWE (fun a w hf => ent_inv1 hinv rfl rfl hf w) (h0.toW) rfl rfl rfl rfl fun v1_3 Hs1_3 hR1_3 => ?_
  obtain ⟨rfl, rfl⟩ := hR1_3
  refine WL.q (oq_askC conc72 rfl) rfl rfl rfl ?_
  refine WL.q (oq_move rfl) rfl rfl rfl ?_
  refine WL.q (oq_extract rfl rfl) rfl rfl rfl ?_
  refine WL.q (oq_extract rfl rfl) rfl rfl rfl ?_
  refine WL.q (oq_assign rfl) rfl rfl rfl ?_
  refine WL.q (oq_assign rfl) rfl rfl rfl ?_
  refine WL.nil (WE.then_normal (WC.sub (fr' := [(1, _), (5, _)]) ?_ ⟨rfl, rfl, trivial⟩))
  refine WC.seq (WC.seq (WC.region ?_))
  refine WL.q (oq_move rfl) rfl rfl rfl ?_
  refine WL.q (oq_peql Tryz.underlying72 rfl rfl) rfl rfl rfl ?_
  refine WL.nil (WE.then_normal (WC.sub (fr' := [(1, _), (5, _), (16, _)]) ?_ ⟨rfl, rfl, rfl, trivial⟩))
  refine WC.cond rfl (fun q2 => ?_) (fun q2 => ?_)
  ·
    try simp only [Z1, Z2, Z3, Z4, Z5, Z6, Z7, Z8, Z9, Z0] at q2
    simp at q2
  ·
    try simp only [Z1, Z2, Z3, Z4, Z5, Z6, Z7, Z8, Z9, Z0] at q2
    refine WC.skip (WE.then_normal (WC.sub (fr' := [(1, _), (5, _)]) ?_ ⟨rfl, rfl, trivial⟩))
    refine WC.seq (WC.region ?_)
    refine WL.q (oq_move rfl) rfl rfl rfl ?_
    refine WL.q (oq_move rfl) rfl rfl rfl ?_
    refine WL.qc (oq_callRm (valAll k r b p) (.head _) call23 rfl) rfl rfl rfl ?_
    refine WL.q (oq_assign rfl) rfl rfl rfl ?_
    refine WL.nil (WE.then_normal (WC.sub (fr' := [(4, _)]) ?_ ⟨rfl, trivial⟩))
    refine WC.ret ?_
    refine WE.endR (.inl rfl) (res1 Tryz.results16 rfl) ?_
    -- end 0
    rfl

/-- (*given.example/pub-tinwright/pub/smithy/middleware.Metadata).Set -/
theorem setN (base mb : Nat) (k v : List UInt8) : FnW Tryz.prog 17 [Pt mb 0, KI k, KI v] base [cellM mb none] (fun x Hs => ∃ m, base ≤ m ∧ Hs = [cellM mb (some (m, mput k (KI v) 0 [], mclk k 0 [])), mapM (some (m, mput k (KI v) 0 [], mclk k 0 []))]) := by
  refine FnW.enter (n := 21) Tryz.func17 rfl rfl fun w0 R0 hbase => ?_
  subst hbase
  show WC _ _ _ _ _ _ _ ([cellM mb none, R0])
  refine WC.sub (fr' := [(0, _), (1, _), (2, _)]) ?_ ⟨rfl, rfl, rfl, trivial⟩
  refine WC.seq (WC.seq (WC.region ?_))
  refine WL.q (oq_move rfl) rfl rfl rfl ?_
  refine WL.q (oq_nilCheck rfl) rfl rfl rfl ?_
  refine WL.q (oq_fieldAddr fld50_0 rfl) rfl rfl rfl ?_
  refine WL.q (oq_load flat48 rfl (.head _) (List.mem_singleton.2 rfl) rfl) rfl rfl rfl ?_
  refine WL.q (oq_meql Tryz.underlying48 rfl rfl) rfl rfl rfl ?_
  refine WL.nil (WE.then_normal (WC.sub (fr' := [(0, _), (1, _), (2, _), (10, _)]) ?_ ⟨rfl, rfl, rfl, rfl, trivial⟩))
  refine WC.cond rfl (fun q0 => ?_) (fun q0 => ?_)
  ·
    try simp only [Z1, Z2, Z3, Z4, Z5, Z6, Z7, Z8, Z9, Z0] at q0
    refine WC.region ?_
    refine WL.q (oq_move rfl) rfl rfl rfl ?_
    refine WL.makeMap (KI) rfl rfl fun m hm => ?_
    refine WL.q (oq_nilCheck rfl) rfl rfl rfl ?_
    refine WL.q (oq_fieldAddr fld50_0 rfl) rfl rfl rfl ?_
    refine WL.f1 ?_
    refine WL.store ty48 rfl rfl rfl (by decide) (by simp) rfl ?_
    refine WL.nil (WE.then_normal (WC.sub (fr' := [(0, _), (1, _), (2, _)]) ?_ ⟨rfl, rfl, rfl, trivial⟩))
    refine WC.region ?_
    refine WL.q (oq_move rfl) rfl rfl rfl ?_
    refine WL.q (oq_nilCheck rfl) rfl rfl rfl ?_
    refine WL.q (oq_fieldAddr fld50_0 rfl) rfl rfl rfl ?_
    refine WL.q (oq_load flat48 rfl (.head _) (List.mem_singleton.2 rfl) rfl) rfl rfl rfl ?_
    refine WL.q (oq_move rfl) rfl rfl rfl ?_
    refine WL.q (oq_move rfl) rfl rfl rfl ?_
    refine WL.f1 ?_
    refine WL.mapUpdate Tryz.underlying48 keyI rfl rfl rfl rfl ?_
    refine WL.nil ?_
    refine WE.f2 ?_
    refine WE.f1 ?_
    refine WE.f2 ?_
    refine WE.endW2 (.inr rfl) (res0 Tryz.results17) ?_
    -- end 0
    exact ⟨m, hm, rfl⟩
  ·
    try simp only [Z1, Z2, Z3, Z4, Z5, Z6, Z7, Z8, Z9, Z0] at q0
    simp at q0

/-- (*given.example/pub-tinwright/pub/smithy/middleware.Metadata).Set -/
theorem setS (base mb m clk : Nat) (ms : List (List UInt8 × Value × Nat)) (k v : List UInt8) : FnW Tryz.prog 17 [Pt mb 0, KI k, KI v] base [cellM mb (some (m, ms, clk)), MG KI m ms clk] (fun x Hs => Hs = [cellM mb (some (m, mput k (KI v) clk ms, mclk k clk ms)), mapM (some (m, mput k (KI v) clk ms, mclk k clk ms))]) := by
  refine FnW.enter (n := 21) Tryz.func17 rfl rfl fun w0 R0 hbase => ?_
  subst hbase
  show WC _ _ _ _ _ _ _ ([cellM mb (some (m, ms, clk)), MG KI m ms clk, R0])
  refine WC.sub (fr' := [(0, _), (1, _), (2, _)]) ?_ ⟨rfl, rfl, rfl, trivial⟩
  refine WC.seq (WC.seq (WC.region ?_))
  refine WL.q (oq_move rfl) rfl rfl rfl ?_
  refine WL.q (oq_nilCheck rfl) rfl rfl rfl ?_
  refine WL.q (oq_fieldAddr fld50_0 rfl) rfl rfl rfl ?_
  refine WL.q (oq_load flat48 rfl (.head _) (List.mem_singleton.2 rfl) rfl) rfl rfl rfl ?_
  refine WL.q (oq_meql Tryz.underlying48 rfl rfl) rfl rfl rfl ?_
  refine WL.nil (WE.then_normal (WC.sub (fr' := [(0, _), (1, _), (2, _), (10, _)]) ?_ ⟨rfl, rfl, rfl, rfl, trivial⟩))
  refine WC.cond rfl (fun q0 => ?_) (fun q0 => ?_)
  ·
    try simp only [Z1, Z2, Z3, Z4, Z5, Z6, Z7, Z8, Z9, Z0] at q0
    simp at q0
  ·
    try simp only [Z1, Z2, Z3, Z4, Z5, Z6, Z7, Z8, Z9, Z0] at q0
    refine WC.skip (WE.then_normal (WC.sub (fr' := [(0, _), (1, _), (2, _)]) ?_ ⟨rfl, rfl, rfl, trivial⟩))
    refine WC.region ?_
    refine WL.q (oq_move rfl) rfl rfl rfl ?_
    refine WL.q (oq_nilCheck rfl) rfl rfl rfl ?_
    refine WL.q (oq_fieldAddr fld50_0 rfl) rfl rfl rfl ?_
    refine WL.q (oq_load flat48 rfl (.head _) (List.mem_singleton.2 rfl) rfl) rfl rfl rfl ?_
    refine WL.q (oq_move rfl) rfl rfl rfl ?_
    refine WL.q (oq_move rfl) rfl rfl rfl ?_
    refine WL.f1 ?_
    refine WL.mapUpdate Tryz.underlying48 keyI rfl rfl rfl rfl ?_
    refine WL.nil ?_
    refine WE.f2 ?_
    refine WE.f1 ?_
    refine WE.f2 ?_
    refine WE.endW2 (.inr rfl) (res0 Tryz.results17) ?_
    -- end 0
    rfl


def freshM (base : Nat) (om : Option (Nat × List (List UInt8 × Value × Nat) × Nat)) : Prop := ∀ b o, (b, o) ∈ mapM om → base ≤ b
theorem setA (base mb : Nat) (om : Option (Nat × List (List UInt8 × Value × Nat) × Nat)) (k v : List UInt8) (hf : freshM base om) : FnW Tryz.prog 17 [Pt mb 0, KI k, KI v] base [cellM mb om, mapM om] (fun x Hs => ∃ om', Hs = [cellM mb om', mapM om'] ∧ freshM base om' ∧ ∀ y, getM om' y = if y = k then some (KI v) else getM om y) := by
  cases om with
  | none =>
    refine (setN base mb k v).reg (by simp [mapM]) ?_
    rintro x Hs ⟨m, hm, rfl⟩
    exact ⟨_, ⟨some (m, mput k (KI v) 0 [], mclk k 0 []), rfl, fun b o h => by simp only [mapM, MG, List.mem_singleton] at h; injection h with h _; omega, fun y => mget_mput _ _ _ _ _⟩, List.Perm.refl _⟩
  | some q =>
    obtain ⟨m, ms, clk⟩ := q
    refine (setS base mb m clk ms k v).reg (List.Perm.refl _) ?_
    rintro x Hs rfl
    exact ⟨_, ⟨some (m, mput k (KI v) clk ms, mclk k clk ms), rfl, fun b o h => hf b (.map (Ment KI ms).toArray clk) (by simp only [mapM, MG, List.mem_singleton] at h ⊢; injection h with h _; rw [h]), fun y => mget_mput _ _ _ _ _⟩, List.Perm.refl _⟩
/-- (given.example/pub-tinwright/pub/smithy/middleware.Metadata).Get -/
theorem getN_ (k : List UInt8) : FnR Tryz.prog 18 [.agg #[.map none], KI k] [] (.nilIface) := by
  refine FnR.enter (n := 9) Tryz.func18 rfl rfl fun w0 => ?_
  refine WC.sub (fr' := [(0, _), (1, _)]) ?_ ⟨rfl, rfl, trivial⟩
  refine WC.seq (WC.region ?_)
  refine WL.box rfl rfl rfl fun o2 ho2 => ?_
  refine WL.q (oq_assign rfl) rfl rfl rfl ?_
  refine WL.nil (WE.then_normal (WC.sub (fr' := [(1, _), (2, _)]) ?_ ⟨rfl, rfl, trivial⟩))
  refine WC.seq (WC.region ?_)
  refine WL.q (oq_fieldAddr fld50_0 rfl) rfl rfl rfl ?_
  refine WL.q (oq_load flat48 rfl (.head _) (List.mem_singleton.2 rfl) rfl) rfl rfl rfl ?_
  refine WL.q (oq_move rfl) rfl rfl rfl ?_
  refine WL.q (oq_lookupN Tryz.underlying48 keyI ty20 rfl rfl) rfl rfl rfl ?_
  refine WL.q (oq_assign rfl) rfl rfl rfl ?_
  refine WL.nil (WE.then_normal (WC.sub (fr' := [(4, _)]) ?_ ⟨rfl, trivial⟩))
  refine WC.ret ?_
  refine WE.lose ho2 ?_
  refine WE.endR (.inl rfl) (res1 Tryz.results18 rfl) ?_
  -- end 0
  rfl

/-- (given.example/pub-tinwright/pub/smithy/middleware.Metadata).Get -/
theorem getS_ (m clk : Nat) (ms : List (List UInt8 × Value × Nat)) (k : List UInt8) : FnR Tryz.prog 18 [.agg #[Mp m], KI k] (MG KI m ms clk) ((mget k ms).getD .nilIface) := by
  refine FnR.enter (n := 9) Tryz.func18 rfl rfl fun w0 => ?_
  refine WC.sub (fr' := [(0, _), (1, _)]) ?_ ⟨rfl, rfl, trivial⟩
  refine WC.seq (WC.region ?_)
  refine WL.box rfl rfl rfl fun o2 ho2 => ?_
  refine WL.q (oq_assign rfl) rfl rfl rfl ?_
  refine WL.nil (WE.then_normal (WC.sub (fr' := [(1, _), (2, _)]) ?_ ⟨rfl, rfl, trivial⟩))
  refine WC.seq (WC.region ?_)
  refine WL.q (oq_fieldAddr fld50_0 rfl) rfl rfl rfl ?_
  refine WL.q (oq_load flat48 rfl (.head _) (List.mem_singleton.2 rfl) rfl) rfl rfl rfl ?_
  refine WL.q (oq_move rfl) rfl rfl rfl ?_
  refine WL.q (oq_lookup1 ((mget k ms).getD .nilIface) Tryz.underlying48 keyI ty20 rfl rfl (.tail _ (.head _)) (rfl)) rfl rfl rfl ?_
  refine WL.q (oq_assign rfl) rfl rfl rfl ?_
  refine WL.nil (WE.then_normal (WC.sub (fr' := [(4, _)]) ?_ ⟨rfl, trivial⟩))
  refine WC.ret ?_
  refine WE.lose ho2 ?_
  refine WE.endR (.inl rfl) (res1 Tryz.results18 rfl) ?_
  -- end 0
  rfl


theorem look_or (o : Option Value) : (o = some (o.getD .nilIface) ∧ o.isSome = true) ∨ (o = none ∧ o.getD .nilIface = .nilIface ∧ o.isSome = false) := by cases o <;> simp
/-- (given.example/pub-tinwright/pub/smithy/middleware.Metadata).Has -/
theorem hasN (k : List UInt8) : FnR Tryz.prog 19 [.agg #[.map none], KI k] [] (.bool false) := by
  refine FnR.enter (n := 18) Tryz.func19 rfl rfl fun w0 => ?_
  refine WC.sub (fr' := [(0, _), (1, _)]) ?_ ⟨rfl, rfl, trivial⟩
  refine WC.seq (WC.region ?_)
  refine WL.box rfl rfl rfl fun o2 ho2 => ?_
  refine WL.q (oq_assign rfl) rfl rfl rfl ?_
  refine WL.nil (WE.then_normal (WC.sub (fr' := [(1, _), (2, _)]) ?_ ⟨rfl, rfl, trivial⟩))
  refine WC.seq (WC.seq (WC.region ?_))
  refine WL.q (oq_fieldAddr fld50_0 rfl) rfl rfl rfl ?_
  refine WL.q (oq_load flat48 rfl (.head _) (List.mem_singleton.2 rfl) rfl) rfl rfl rfl ?_
  refine WL.q (oq_meql Tryz.underlying48 rfl rfl) rfl rfl rfl ?_
  refine WL.nil (WE.then_normal (WC.sub (fr' := [(1, _), (2, _), (9, _)]) ?_ ⟨rfl, rfl, rfl, trivial⟩))
  refine WC.cond rfl (fun q1 => ?_) (fun q1 => ?_)
  ·
    try simp only [Z1, Z2, Z3, Z4, Z5, Z6, Z7, Z8, Z9, Z0] at q1
    refine WC.seq (WC.region ?_)
    refine WL.q (oq_assign rfl) rfl rfl rfl ?_
    refine WL.nil (WE.then_normal (WC.sub (fr' := [(4, _)]) ?_ ⟨rfl, trivial⟩))
    refine WC.ret (WE.then_ret ?_)
    refine WE.lose ho2 ?_
    refine WE.endR (.inl rfl) (res1 Tryz.results19 rfl) ?_
    -- end 0
    rfl
  ·
    try simp only [Z1, Z2, Z3, Z4, Z5, Z6, Z7, Z8, Z9, Z0] at q1
    simp at q1

/-- (given.example/pub-tinwright/pub/smithy/middleware.Metadata).Has -/
theorem hasS (m clk : Nat) (ms : List (List UInt8 × Value × Nat)) (k : List UInt8) : FnR Tryz.prog 19 [.agg #[Mp m], KI k] (MG KI m ms clk) (.bool (mget k ms).isSome) := by
  refine FnR.enter (n := 18) Tryz.func19 rfl rfl fun w0 => ?_
  refine WC.sub (fr' := [(0, _), (1, _)]) ?_ ⟨rfl, rfl, trivial⟩
  refine WC.seq (WC.region ?_)
  refine WL.box rfl rfl rfl fun o2 ho2 => ?_
  refine WL.q (oq_assign rfl) rfl rfl rfl ?_
  refine WL.nil (WE.then_normal (WC.sub (fr' := [(1, _), (2, _)]) ?_ ⟨rfl, rfl, trivial⟩))
  refine WC.seq (WC.seq (WC.region ?_))
  refine WL.q (oq_fieldAddr fld50_0 rfl) rfl rfl rfl ?_
  refine WL.q (oq_load flat48 rfl (.head _) (List.mem_singleton.2 rfl) rfl) rfl rfl rfl ?_
  refine WL.q (oq_meql Tryz.underlying48 rfl rfl) rfl rfl rfl ?_
  refine WL.nil (WE.then_normal (WC.sub (fr' := [(1, _), (2, _), (9, _)]) ?_ ⟨rfl, rfl, rfl, trivial⟩))
  refine WC.cond rfl (fun q1 => ?_) (fun q1 => ?_)
  ·
    try simp only [Z1, Z2, Z3, Z4, Z5, Z6, Z7, Z8, Z9, Z0] at q1
    simp at q1
  ·
    try simp only [Z1, Z2, Z3, Z4, Z5, Z6, Z7, Z8, Z9, Z0] at q1
    refine WC.skip (WE.then_normal (WC.sub (fr' := [(1, _), (2, _)]) ?_ ⟨rfl, rfl, trivial⟩))
    refine WC.seq (WC.region ?_)
    refine WL.q (oq_fieldAddr fld50_0 rfl) rfl rfl rfl ?_
    refine WL.q (oq_load flat48 rfl (.head _) (List.mem_singleton.2 rfl) rfl) rfl rfl rfl ?_
    refine WL.q (oq_move rfl) rfl rfl rfl ?_
    refine WL.q (oq_lookup ((mget k ms).getD .nilIface) ((mget k ms).isSome) Tryz.underlying48 keyI ty20 rfl rfl (.tail _ (.head _)) (look_or (mget k ms))) rfl rfl rfl ?_
    refine WL.q (oq_move rfl) rfl rfl rfl ?_
    refine WL.q (oq_extract rfl rfl) rfl rfl rfl ?_
    refine WL.q (oq_extract rfl rfl) rfl rfl rfl ?_
    refine WL.q (oq_assign rfl) rfl rfl rfl ?_
    refine WL.q (oq_assign rfl) rfl rfl rfl ?_
    refine WL.nil (WE.then_normal (WC.sub (fr' := [(6, _)]) ?_ ⟨rfl, trivial⟩))
    refine WC.seq (WC.region ?_)
    refine WL.q (oq_move rfl) rfl rfl rfl ?_
    refine WL.q (oq_assign rfl) rfl rfl rfl ?_
    refine WL.nil (WE.then_normal (WC.sub (fr' := [(4, _)]) ?_ ⟨rfl, trivial⟩))
    refine WC.ret ?_
    refine WE.lose ho2 ?_
    refine WE.endR (.inl rfl) (res1 Tryz.results19 rfl) ?_
    -- end 0
    rfl


theorem getA (om : Option (Nat × List (List UInt8 × Value × Nat) × Nat)) (k : List UInt8) : FnR Tryz.prog 18 [.agg #[.map (om.map fun x => x.1)], KI k] (mapM om) ((getM om k).getD .nilIface) := by
  cases om with
  | none => exact getN_ k
  | some q => exact getS_ q.1 q.2.2 q.2.1 k
theorem hasA (om : Option (Nat × List (List UInt8 × Value × Nat) × Nat)) (k : List UInt8) : FnR Tryz.prog 19 [.agg #[.map (om.map fun x => x.1)], KI k] (mapM om) (.bool (getM om k).isSome) := by
  cases om with
  | none => exact hasN k
  | some q => exact hasS q.1 q.2.2 q.2.1 k
end G2
end Go.Proofs.YtclafiglpcjhdaaGreat
