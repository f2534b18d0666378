/- Values written. -/
import Derived.Test.YtodlhaghdplclaaDoorEE
namespace Go.Proofs.YtodlhaghdplclaaDoor
open Go Go.RowKit V EA EB EC ED EE
set_option linter.unusedSimpArgs false
set_option linter.unusedVariables false
set_option maxRecDepth 10000
namespace EF
theorem call28 : Callable Tryd.prog 28 := ⟨_, Tryd.func28, rfl, by kernel_rfl⟩
theorem flat5 : Flat Tryd.prog 5 := ⟨_, Tryd.underlying5, by simp⟩
theorem flat101 : Flat Tryd.prog 101 := ⟨_, Tryd.underlying101, by simp⟩
theorem flat103 : Flat Tryd.prog 103 := ⟨_, Tryd.underlying103, by simp⟩
theorem ty5 : Ty Tryd.prog 5 (.int .u8 0) 1 1 := ty_of (by kernel_rfl)
theorem ty20 : Ty Tryd.prog 20 .nilIface 1 16 := ty_of (by kernel_rfl)
theorem ty84 : Ty Tryd.prog 84 (.agg #[(.int .u8 0), (.int .u8 0), (.int .u8 0), (.int .u8 0), (.int .u8 0), (.int .u8 0), (.int .u8 0), (.int .u8 0), (.int .u8 0), (.int .u8 0), (.int .u8 0), (.int .u8 0), (.int .u8 0), (.int .u8 0), (.int .u8 0), (.int .u8 0), (.int .u8 0), (.int .u8 0), (.int .u8 0), (.int .u8 0), (.int .u8 0), (.int .u8 0), (.int .u8 0), (.int .u8 0), (.int .u8 0), (.int .u8 0), (.int .u8 0), (.int .u8 0), (.int .u8 0), (.int .u8 0), (.int .u8 0), (.int .u8 0), (.int .u8 0), (.int .u8 0), (.int .u8 0), (.int .u8 0), (.int .u8 0), (.int .u8 0), (.int .u8 0), (.int .u8 0), (.int .u8 0), (.int .u8 0), (.int .u8 0), (.int .u8 0), (.int .u8 0), (.int .u8 0), (.int .u8 0), (.int .u8 0), (.int .u8 0), (.int .u8 0), (.int .u8 0), (.int .u8 0), (.int .u8 0), (.int .u8 0), (.int .u8 0), (.int .u8 0), (.int .u8 0), (.int .u8 0), (.int .u8 0), (.int .u8 0), (.int .u8 0), (.int .u8 0), (.int .u8 0), (.int .u8 0), (.int .u8 0), (.int .u8 0), (.int .u8 0), (.int .u8 0), (.int .u8 0), (.int .u8 0), (.int .u8 0), (.int .u8 0), (.int .u8 0), (.int .u8 0), (.int .u8 0), (.int .u8 0), (.int .u8 0), (.int .u8 0), (.int .u8 0), (.int .u8 0), (.int .u8 0), (.int .u8 0), (.int .u8 0), (.int .u8 0), (.int .u8 0), (.int .u8 0), (.int .u8 0), (.int .u8 0), (.int .u8 0), (.int .u8 0), (.int .u8 0), (.int .u8 0), (.int .u8 0), (.int .u8 0), (.int .u8 0), (.int .u8 0), (.int .u8 0), (.int .u8 0), (.int .u8 0), (.int .u8 0), (.int .u8 0), (.int .u8 0), (.int .u8 0), (.int .u8 0), (.int .u8 0), (.int .u8 0), (.int .u8 0), (.int .u8 0), (.int .u8 0), (.int .u8 0), (.int .u8 0), (.int .u8 0), (.int .u8 0), (.int .u8 0), (.int .u8 0), (.int .u8 0), (.int .u8 0), (.int .u8 0), (.int .u8 0), (.int .u8 0), (.int .u8 0), (.int .u8 0), (.int .u8 0), (.int .u8 0), (.int .u8 0), (.int .u8 0), (.int .u8 0), (.int .u8 0), (.int .u8 0), (.int .u8 0), (.int .u8 0), (.int .u8 0), (.int .u8 0), (.int .u8 0), (.int .u8 0), (.int .u8 0), (.int .u8 0), (.int .u8 0), (.int .u8 0), (.int .u8 0), (.int .u8 0), (.int .u8 0), (.int .u8 0), (.int .u8 0), (.int .u8 0), (.int .u8 0), (.int .u8 0), (.int .u8 0), (.int .u8 0), (.int .u8 0), (.int .u8 0), (.int .u8 0), (.int .u8 0), (.int .u8 0), (.int .u8 0), (.int .u8 0), (.int .u8 0), (.int .u8 0), (.int .u8 0), (.int .u8 0), (.int .u8 0), (.int .u8 0), (.int .u8 0), (.int .u8 0), (.int .u8 0), (.int .u8 0), (.int .u8 0), (.int .u8 0), (.int .u8 0), (.int .u8 0), (.int .u8 0), (.int .u8 0), (.int .u8 0), (.int .u8 0), (.int .u8 0), (.int .u8 0), (.int .u8 0), (.int .u8 0), (.int .u8 0), (.int .u8 0), (.int .u8 0), (.int .u8 0), (.int .u8 0), (.int .u8 0), (.int .u8 0), (.int .u8 0), (.int .u8 0), (.int .u8 0), (.int .u8 0), (.int .u8 0), (.int .u8 0), (.int .u8 0), (.int .u8 0), (.int .u8 0), (.int .u8 0), (.int .u8 0), (.int .u8 0), (.int .u8 0), (.int .u8 0), (.int .u8 0), (.int .u8 0), (.int .u8 0), (.int .u8 0), (.int .u8 0), (.int .u8 0), (.int .u8 0), (.int .u8 0), (.int .u8 0), (.int .u8 0), (.int .u8 0), (.int .u8 0), (.int .u8 0), (.int .u8 0), (.int .u8 0), (.int .u8 0), (.int .u8 0), (.int .u8 0), (.int .u8 0), (.int .u8 0), (.int .u8 0), (.int .u8 0), (.int .u8 0), (.int .u8 0), (.int .u8 0), (.int .u8 0), (.int .u8 0), (.int .u8 0), (.int .u8 0), (.int .u8 0), (.int .u8 0), (.int .u8 0), (.int .u8 0), (.int .u8 0), (.int .u8 0), (.int .u8 0), (.int .u8 0), (.int .u8 0), (.int .u8 0), (.int .u8 0), (.int .u8 0), (.int .u8 0), (.int .u8 0), (.int .u8 0), (.int .u8 0), (.int .u8 0), (.int .u8 0), (.int .u8 0), (.int .u8 0), (.int .u8 0), (.int .u8 0), (.int .u8 0), (.int .u8 0), (.int .u8 0), (.int .u8 0), (.int .u8 0)]) 255 255 := ty_of (by kernel_rfl)
theorem ty101 : Ty Tryd.prog 101 (.int .u8 0) 1 1 := ty_of (by kernel_rfl)
theorem ty103 : Ty Tryd.prog 103 (.int .u16 0) 1 2 := ty_of (by kernel_rfl)
theorem conc5 : Conc Tryd.prog 5 := ⟨_, Tryd.underlying5, by simp⟩
theorem conc101 : Conc Tryd.prog 101 := ⟨_, Tryd.underlying101, by simp⟩
theorem conc103 : Conc Tryd.prog 103 := ⟨_, Tryd.underlying103, by simp⟩
theorem fld86_0 : Fld Tryd.prog 86 0 0 5 := fld_of Tryd.underlying86 rfl rfl rfl ty5 (by decide)
theorem fld86_1 : Fld Tryd.prog 86 1 1 84 := fld_of Tryd.underlying86 rfl rfl rfl ty84 (by decide)
theorem fld155_0 : Fld Tryd.prog 155 0 0 101 := fld_of Tryd.underlying155 rfl rfl rfl ty101 (by decide)
theorem fld155_1 : Fld Tryd.prog 155 1 1 103 := fld_of Tryd.underlying155 rfl rfl rfl ty103 (by decide)

theorem be1 (b : UInt8) : be 1 (b.toNat : Int) = [b] := by
  have e : beB 0 (b.toNat : Int) = b := by
    apply UInt8.toNat_inj.1
    have h := beB_nat 0 (b.toNat : Int)
    have := b.toNat_lt
    simp at h
    omega
  show [beB 0 _] = [b]
  rw [e]
theorem ok1 {a : Num} (h : a.ok) : ∀ d ∈ [a], d.ok := fun d hd => by rw [List.mem_singleton] at hd; subst hd; exact h
theorem ok2 {a b : Num} (h : a.ok) (h2 : b.ok) : ∀ d ∈ [a, b], d.ok := fun d hd => by
  rcases List.mem_cons.1 hd with rfl | hd
  · exact h
  · exact ok1 h2 d hd
theorem okT (x : Int) : Num.ok ⟨101, .u8, 1, x⟩ := by simp [Num.ok, Num.kinds]
theorem okB (x : Int) : Num.ok ⟨5, .u8, 1, x⟩ := by simp [Num.ok, Num.kinds]
theorem bytesN1 (k : TypeId) (ik : IntKind) (b : UInt8) : bytesN [⟨k, ik, 1, (b.toNat : Int)⟩] = [b] := by simp [bytesN, be1]
theorem bytesN2 (k : TypeId) (ik : IntKind) (b : UInt8) (d : Num) : bytesN [⟨k, ik, 1, (b.toNat : Int)⟩, d] = b :: be d.w d.x := by simp [bytesN, be1]
/-- a writer after one more writing -/
abbrev Then (Wt : List UInt8 → Hp → Prop) (acc : List UInt8) (R : List Hp) (w : Value) (Hs : List Hp) : Prop := ∃ G2, w = .nilIface ∧ Hs = G2 :: R ∧ Wt acc G2
/-- (given.example/pub-tinwright/pub/smithy/eventstream.headerName).encode -/
theorem nameEnc (base : Nat) (k : TypeId) (r : Value) (f : FuncId) (Wt : List UInt8 → Hp → Prop) (hW : Wr base k r f Wt) (acc0 : List UInt8) (G : Hp) (hG : Wt acc0 G) (b0 : UInt8) (nm : List UInt8) (hnm : nm.length = 255) (hal : acc0.length ≤ 290000) : FnW Tryd.prog 30 [.agg (bytesV (b0 :: nm)).toArray, .iface k r] base [G] (Then Wt (acc0 ++ (b0 :: nm.take b0.toNat)) []) := by
  have hb8 := b0.toNat_lt
  refine FnW.enter (n := 30) Tryd.func30 rfl rfl fun w0 R0 hbase => ?_
  subst hbase
  show WC _ _ _ _ _ _ _ ([G, R0])
  refine WC.sub (fr' := [(0, _), (1, _)]) ?_ ⟨rfl, rfl, trivial⟩
  refine WC.seq (WC.region ?_)
  refine WL.box rfl rfl rfl fun hb hhb => ?_
  refine WL.asB (b0 :: nm) rfl ?_
  refine WL.q (oq_assign rfl) rfl rfl rfl ?_
  refine WL.nil (WE.then_normal (WC.sub (fr' := [(1, _), (2, _)]) ?_ ⟨rfl, rfl, trivial⟩))
  refine WC.seq (WC.seq (WC.region ?_))
  refine WL.q (oq_move rfl) rfl rfl rfl ?_
  refine WL.q (oq_fieldAddr fld86_0 rfl) rfl rfl rfl ?_
  refine WL.q (oq_load flat5 rfl (.head _) (List.mem_singleton.2 rfl) rfl) rfl rfl rfl ?_
  refine WL.q (oq_makeI conc5 rfl) rfl rfl rfl ?_
  refine WL.buildL Tryd.underlying100 ty20 rfl rfl (by decide) (by decide) rfl rfl rfl fun v1 A1 ho1 hne1 => ?_
  refine WL.f2 ?_
  refine WL.f1 ?_
  refine WL.callW2 (zzWrite _ k r f Wt hW acc0 G hG v1 A1 [⟨5, .u8, 1, (b0.toNat : Int)⟩] ho1.rd (ok1 (okB _)) (by simp) (by simp; omega)) call28 rfl rfl rfl fun v1_5 Hs1_5 hR1_5 => ?_
  obtain ⟨G2, rfl, rfl, hG2⟩ := hR1_5
  rw [bytesN1] at hG2
  refine WL.to2 ?_
  refine WL.q (oq_assign rfl) rfl rfl rfl ?_
  refine WL.nil (WE.then_normal (WC.sub (fr' := [(1, _), (2, _), (5, _)]) ?_ ⟨rfl, rfl, rfl, trivial⟩))
  refine WC.seq (WC.region ?_)
  refine WL.q (oq_move rfl) rfl rfl rfl ?_
  refine WL.q (oq_ineq Tryd.underlying41 rfl (.inl rfl)) rfl rfl rfl ?_
  refine WL.nil (WE.then_normal (WC.sub (fr' := [(1, _), (2, _), (5, _), (15, _)]) ?_ ⟨rfl, rfl, rfl, rfl, trivial⟩))
  refine WC.cond rfl (fun q2 => ?_) (fun q2 => ?_)
  ·
    try simp only [Z1, Z2, Z3, Z4, Z5, Z6, Z7, Z8, Z9, Z0] at q2
    first | contradiction | (exfalso; omega) | (exfalso; simp_all; done)
  ·
    try simp only [Z1, Z2, Z3, Z4, Z5, Z6, Z7, Z8, Z9, Z0] at q2
    refine WC.skip (WE.then_normal (WC.sub (fr' := [(1, _), (2, _)]) ?_ ⟨rfl, rfl, trivial⟩))
    refine WC.seq ?_
    have hnl : (nm.take b0.toNat).length = b0.toNat := by rw [List.length_take]; omega
    have hrd : RdS 1 (Sl hb (0 + 1 + 0) (b0.toNat - 0) (255 - 0)) (Bf hb 86 (b0 :: nm)) (nm.take b0.toNat).length (bytesV (nm.take b0.toNat)) := by
      rw [hnl]; exact Sl.rd (b := hb) (off := 1) (n := b0.toNat) (c := 255) (e := 86) (l := b0 :: nm) (by rw [List.length_cons]; omega) (by omega)
    refine WC.tailM (pl := []) (ql := [_, _, _, _, _, _, _, _]) (tl := [_, _, _, _, _, _]) [] [0, 1, 2, 3, 4, 5, 6, 7] 8 [9, 10, 11, 12, 13] (by kernel_rfl) (by kernel_rfl) (by kernel_rfl) (by kernel_rfl) (by kernel_rfl) (by kernel_rfl) (by decide) rfl rfl rfl (by decide) (by repeat (first | with_reducible exact QOk.body | with_reducible apply QOk.then | with_reducible apply QOk.block | exact QOk.body | apply QOk.then | apply QOk.block)) ?_
    refine WM.nil ?_
    refine WY.q (oq_move rfl) rfl rfl rfl ?_
    refine WY.q (oq_fieldAddr fld86_1 rfl) rfl rfl rfl ?_
    refine WY.q (oq_fieldAddr fld86_0 rfl) rfl rfl rfl ?_
    refine WY.q (oq_load flat5 rfl (.tail _ (.tail _ (.head _))) (List.mem_singleton.2 rfl) rfl) rfl rfl rfl ?_
    refine WY.q (oq_sliceArr (j := b0.toNat) Tryd.underlying84 ty5 rfl rfl ⟨_, rfl⟩ (by omega) (by omega)) rfl rfl rfl ?_
    refine WY.q (oq_makeMeth rfl) rfl rfl rfl ?_
    refine WY.q (oq_nilMeth rfl (hW.nok)) rfl rfl rfl ?_
    refine WY.q (oq_move rfl) rfl rfl rfl ?_
    refine WY.nil ?_
    refine WL.f2 ?_
    refine WL.f2 ?_
    refine WL.callWE (fun a w hf => ent_inv1 hW.inv rfl rfl hf w) (hW.run _ G2 _ (Bf hb 86 (b0 :: nm)) (nm.take b0.toNat) hG2 hrd (by rw [List.length_append]; simp only [List.length_singleton]; omega) (by rw [List.length_append]; simp only [List.length_singleton]; omega)) rfl rfl rfl rfl fun v4_8 Hs4_8 hR4_8 => ?_
    obtain ⟨G3, rfl, rfl, hG3⟩ := hR4_8
    refine WL.app2 ?_
    refine WL.q (oq_move rfl) rfl rfl rfl ?_
    refine WL.q (oq_extract rfl rfl) rfl rfl rfl ?_
    refine WL.q (oq_extract rfl rfl) rfl rfl rfl ?_
    refine WL.q (oq_assign rfl) rfl rfl rfl ?_
    refine WL.q (oq_assign rfl) rfl rfl rfl ?_
    refine WL.nil (WE.then_normal (WC.sub (fr' := [(7, _)]) ?_ ⟨rfl, trivial⟩))
    refine WC.seq (WC.region ?_)
    refine WL.q (oq_move rfl) rfl rfl rfl ?_
    refine WL.q (oq_assign rfl) rfl rfl rfl ?_
    refine WL.nil (WE.then_normal (WC.sub (fr' := [(4, _)]) ?_ ⟨rfl, trivial⟩))
    refine WC.ret ?_
    refine WE.f1 ?_
    refine WE.lose hhb ?_
    refine WE.f1 ?_
    refine WE.forget ho1.fresh ?_
    refine WE.endW1 (.inl rfl) (res1 Tryd.results30 rfl) ?_
    -- end 0
    exact ⟨_, rfl, rfl, by rw [List.append_assoc] at hG3; exact hG3⟩

/-- (given.example/pub-tinwright/pub/smithy/eventstream.rawValue).encodeScalar -/
theorem encScalar (base : Nat) (k : TypeId) (r : Value) (f : FuncId) (Wt : List UInt8 → Hp → Prop) (hW : Wr base k r f Wt) (acc0 : List UInt8) (G : Hp) (hG : Wt acc0 G) (t : UInt8) (l1 l2 : Value) (d : Num) (hd : d.ok) (hal : acc0.length ≤ 290000) : FnW Tryd.prog 73 [.agg #[.int .u8 (t.toNat : Int), l1, l2], .iface k r, d.val] base [G] (Then Wt (acc0 ++ (t :: be d.w d.x)) []) := by
  refine FnW.enter (n := 14) Tryd.func73 rfl rfl fun w0 R0 hbase => ?_
  subst hbase
  show WC _ _ _ _ _ _ _ ([G, R0])
  refine WC.sub (fr' := [(0, _), (1, _), (2, _)]) ?_ ⟨rfl, rfl, rfl, trivial⟩
  refine WC.seq (WC.region ?_)
  refine WL.box rfl rfl rfl fun b0_0 hb0_0 => ?_
  refine WL.q (oq_assign rfl) rfl rfl rfl ?_
  refine WL.nil (WE.then_normal (WC.sub (fr' := [(1, _), (2, _), (3, _)]) ?_ ⟨rfl, rfl, rfl, trivial⟩))
  refine WC.seq (WC.region ?_)
  refine WL.q (oq_move rfl) rfl rfl rfl ?_
  refine WL.q (oq_fieldAddr fld155_0 rfl) rfl rfl rfl ?_
  refine WL.q (oq_load flat101 rfl (.head _) (List.mem_singleton.2 rfl) rfl) rfl rfl rfl ?_
  refine WL.q (oq_makeI conc101 rfl) rfl rfl rfl ?_
  refine WL.q (oq_move rfl) rfl rfl rfl ?_
  refine WL.buildL Tryd.underlying100 ty20 rfl rfl (by decide) (by decide) rfl rfl rfl fun v1 A1 ho1 hne1 => ?_
  refine WL.f2 ?_
  refine WL.f1 ?_
  refine WL.callW2 (zzWrite _ k r f Wt hW acc0 G hG v1 A1 [⟨101, .u8, 1, (t.toNat : Int)⟩, d] ho1.rd (ok2 (okT _) hd) (by simp) (by simp; omega)) call28 rfl rfl rfl fun v1_6 Hs1_6 hR1_6 => ?_
  obtain ⟨G2, rfl, rfl, hG2⟩ := hR1_6
  rw [bytesN2] at hG2
  refine WL.to2 ?_
  refine WL.q (oq_assign rfl) rfl rfl rfl ?_
  refine WL.nil (WE.then_normal (WC.sub (fr' := [(6, _)]) ?_ ⟨rfl, trivial⟩))
  refine WC.ret ?_
  refine WE.forget ho1.fresh ?_
  refine WE.f1 ?_
  refine WE.lose hb0_0 ?_
  refine WE.endW1 (.inl rfl) (res1 Tryd.results73 rfl) ?_
  -- end 0
  exact ⟨_, rfl, rfl, hG2⟩

/-- (given.example/pub-tinwright/pub/smithy/eventstream.rawValue).encodeBytes -/
theorem encBytes (base : Nat) (k : TypeId) (r : Value) (f : FuncId) (Wt : List UInt8 → Hp → Prop) (hW : Wr base k r f Wt) (acc0 : List UInt8) (G : Hp) (hG : Wt acc0 G) (t : UInt8) (l1 l2 : Value) (s : Value) (Z : Hp) (data : List UInt8) (hr : RdS 1 s Z data.length (bytesV data)) (hdl : data.length ≤ 32767) (hal : acc0.length ≤ 250000) : FnW Tryd.prog 90 [.agg #[.int .u8 (t.toNat : Int), l1, l2], .iface k r, s] base [G, Z] (Then Wt (acc0 ++ (t :: be 2 data.length ++ data)) [Z]) := by
  refine FnW.enter (n := 40) Tryd.func90 rfl rfl fun w0 R0 hbase => ?_
  subst hbase
  show WC _ _ _ _ _ _ _ ([G, Z, R0])
  refine WC.sub (fr' := [(0, _), (1, _), (2, _)]) ?_ ⟨rfl, rfl, rfl, trivial⟩
  refine WC.seq (WC.region ?_)
  refine WL.box rfl rfl rfl fun b0_0 hb0_0 => ?_
  refine WL.q (oq_assign rfl) rfl rfl rfl ?_
  refine WL.nil (WE.then_normal (WC.sub (fr' := [(1, _), (2, _), (3, _)]) ?_ ⟨rfl, rfl, rfl, trivial⟩))
  refine WC.seq (WC.seq (WC.region ?_))
  refine WL.q (oq_move rfl) rfl rfl rfl ?_
  refine WL.q (oq_len_rd hr Tryd.underlying23 rfl) rfl rfl rfl ?_
  refine WL.q (oq_gtr rfl rfl) rfl rfl rfl ?_
  refine WL.nil (WE.then_normal (WC.sub (fr' := [(1, _), (2, _), (3, _), (10, _)]) ?_ ⟨rfl, rfl, rfl, rfl, trivial⟩))
  refine WC.cond rfl (fun q1 => ?_) (fun q1 => ?_)
  ·
    try simp only [Z1, Z2, Z3, Z4, Z5, Z6, Z7, Z8, Z9, Z0] at q1
    first | contradiction | (exfalso; omega) | (exfalso; simp_all; done)
  ·
    try simp only [Z1, Z2, Z3, Z4, Z5, Z6, Z7, Z8, Z9, Z0] at q1
    refine WC.skip (WE.then_normal (WC.sub (fr' := [(1, _), (2, _), (3, _)]) ?_ ⟨rfl, rfl, rfl, trivial⟩))
    refine WC.seq (WC.region ?_)
    refine WL.q (oq_move rfl) rfl rfl rfl ?_
    refine WL.q (oq_len_rd hr Tryd.underlying23 rfl) rfl rfl rfl ?_
    refine WL.q (oq_conv Tryd.underlying3 Tryd.underlying103 rfl (by rw [u16_lo, u16_hi]; (first | omega | (simp only [List.length_cons, List.length_nil, List.length_append, List.length_drop, List.length_take]; omega)))) rfl rfl rfl ?_
    refine WL.q (oq_fieldAddr fld155_1 rfl) rfl rfl rfl ?_
    refine WL.store1 #[_, _, _] ty103 rfl rfl (by first | rfl | exact OwS.one one_) (Nat.lt_of_lt_of_le (Nat.lt_succ_self _) (Nat.le_of_ble_eq_true rfl)) rfl rfl ?_
    refine WL.nil (WE.then_normal (WC.sub (fr' := [(1, _), (2, _), (3, _)]) ?_ ⟨rfl, rfl, rfl, trivial⟩))
    refine WC.seq (WC.region ?_)
    refine WL.q (oq_move rfl) rfl rfl rfl ?_
    refine WL.q (oq_fieldAddr fld155_0 rfl) rfl rfl rfl ?_
    refine WL.q (oq_load flat101 rfl (.head _) (List.mem_singleton.2 rfl) rfl) rfl rfl rfl ?_
    refine WL.q (oq_makeI conc101 rfl) rfl rfl rfl ?_
    refine WL.q (oq_fieldAddr fld155_1 rfl) rfl rfl rfl ?_
    refine WL.q (oq_load flat103 rfl (.head _) (List.mem_singleton.2 rfl) rfl) rfl rfl rfl ?_
    refine WL.q (oq_makeI conc103 rfl) rfl rfl rfl ?_
    refine WL.buildL Tryd.underlying100 ty20 rfl rfl (by decide) (by decide) rfl rfl rfl fun v4 A4 ho4 hne4 => ?_
    refine WL.f2 ?_
    refine WL.f1 ?_
    refine WL.callW2 (zzWrite _ k r f Wt hW acc0 G hG v4 A4 [⟨101, .u8, 1, (t.toNat : Int)⟩, ⟨103, .u16, 2, (data.length : Int)⟩] ho4.rd (ok2 (okT _) (by simp [Num.ok, Num.kinds])) (by simp) (by simp; omega)) call28 rfl rfl rfl fun v4_8 Hs4_8 hR4_8 => ?_
    obtain ⟨G2, rfl, rfl, hG2⟩ := hR4_8
    rw [bytesN2] at hG2
    refine WL.to2 ?_
    refine WL.q (oq_assign rfl) rfl rfl rfl ?_
    refine WL.nil (WE.then_normal (WC.sub (fr' := [(1, _), (2, _), (7, _)]) ?_ ⟨rfl, rfl, rfl, trivial⟩))
    refine WC.seq (WC.seq (WC.region ?_))
    refine WL.q (oq_move rfl) rfl rfl rfl ?_
    refine WL.q (oq_ineq Tryd.underlying41 rfl (.inl rfl)) rfl rfl rfl ?_
    refine WL.nil (WE.then_normal (WC.sub (fr' := [(1, _), (2, _), (7, _), (31, _)]) ?_ ⟨rfl, rfl, rfl, rfl, trivial⟩))
    refine WC.cond rfl (fun q5 => ?_) (fun q5 => ?_)
    ·
      try simp only [Z1, Z2, Z3, Z4, Z5, Z6, Z7, Z8, Z9, Z0] at q5
      first | contradiction | (exfalso; omega) | (exfalso; simp_all; done)
    ·
      try simp only [Z1, Z2, Z3, Z4, Z5, Z6, Z7, Z8, Z9, Z0] at q5
      refine WC.skip (WE.then_normal (WC.sub (fr' := [(1, _), (2, _)]) ?_ ⟨rfl, rfl, trivial⟩))
      refine WC.seq (WC.region ?_)
      refine WL.q (oq_move rfl) rfl rfl rfl ?_
      refine WL.q (oq_move rfl) rfl rfl rfl ?_
      refine WL.f3 ?_
      refine WL.f2 ?_
      refine WL.callWE (fun a w hf => ent_inv1 hW.inv rfl rfl hf w) (hW.run _ G2 s Z data hG2 hr (by simp [be_len]; omega) (by simp; omega)) rfl rfl rfl rfl fun v7_2 Hs7_2 hR7_2 => ?_
      obtain ⟨G3, rfl, rfl, hG3⟩ := hR7_2
      refine WL.app2 ?_
      refine WL.q (oq_move rfl) rfl rfl rfl ?_
      refine WL.q (oq_extract rfl rfl) rfl rfl rfl ?_
      refine WL.q (oq_extract rfl rfl) rfl rfl rfl ?_
      refine WL.q (oq_assign rfl) rfl rfl rfl ?_
      refine WL.nil (WE.then_normal (WC.sub (fr' := [(7, _)]) ?_ ⟨rfl, trivial⟩))
      refine WC.seq (WC.region ?_)
      refine WL.q (oq_move rfl) rfl rfl rfl ?_
      refine WL.q (oq_assign rfl) rfl rfl rfl ?_
      refine WL.nil (WE.then_normal (WC.sub (fr' := [(6, _)]) ?_ ⟨rfl, trivial⟩))
      refine WC.ret ?_
      refine WE.f2 ?_
      refine WE.forget ho4.fresh ?_
      refine WE.f2 ?_
      refine WE.lose hb0_0 ?_
      refine WE.endW2 (.inl rfl) (res1 Tryd.results90 rfl) ?_
      -- end 0
      exact ⟨_, rfl, rfl, by rw [List.append_assoc] at hG3; exact hG3⟩

/-- (given.example/pub-tinwright/pub/smithy/eventstream.rawValue).encodeFixedSlice -/
theorem encFixed (base : Nat) (k : TypeId) (r : Value) (f : FuncId) (Wt : List UInt8 → Hp → Prop) (hW : Wr base k r f Wt) (acc0 : List UInt8) (G : Hp) (hG : Wt acc0 G) (t : UInt8) (l1 l2 : Value) (s : Value) (Z : Hp) (data : List UInt8) (hr : RdS 1 s Z data.length (bytesV data)) (hdl : data.length ≤ 32767) (hal : acc0.length ≤ 250000) : FnW Tryd.prog 110 [.agg #[.int .u8 (t.toNat : Int), l1, l2], .iface k r, s] base [G, Z] (Then Wt (acc0 ++ (t :: data)) [Z]) := by
  refine FnW.enter (n := 22) Tryd.func110 rfl rfl fun w0 R0 hbase => ?_
  subst hbase
  show WC _ _ _ _ _ _ _ ([G, Z, R0])
  refine WC.sub (fr' := [(0, _), (1, _), (2, _)]) ?_ ⟨rfl, rfl, rfl, trivial⟩
  refine WC.seq (WC.region ?_)
  refine WL.box rfl rfl rfl fun b0_0 hb0_0 => ?_
  refine WL.q (oq_assign rfl) rfl rfl rfl ?_
  refine WL.nil (WE.then_normal (WC.sub (fr' := [(1, _), (2, _), (3, _)]) ?_ ⟨rfl, rfl, rfl, trivial⟩))
  refine WC.seq (WC.region ?_)
  refine WL.q (oq_move rfl) rfl rfl rfl ?_
  refine WL.q (oq_fieldAddr fld155_0 rfl) rfl rfl rfl ?_
  refine WL.q (oq_load flat101 rfl (.head _) (List.mem_singleton.2 rfl) rfl) rfl rfl rfl ?_
  refine WL.q (oq_makeI conc101 rfl) rfl rfl rfl ?_
  refine WL.buildL Tryd.underlying100 ty20 rfl rfl (by decide) (by decide) rfl rfl rfl fun v1 A1 ho1 hne1 => ?_
  refine WL.f2 ?_
  refine WL.f1 ?_
  refine WL.callW2 (zzWrite _ k r f Wt hW acc0 G hG v1 A1 [⟨101, .u8, 1, (t.toNat : Int)⟩] ho1.rd (ok1 (okT _)) (by simp) (by simp; omega)) call28 rfl rfl rfl fun v1_5 Hs1_5 hR1_5 => ?_
  obtain ⟨G2, rfl, rfl, hG2⟩ := hR1_5
  rw [bytesN1] at hG2
  refine WL.to2 ?_
  refine WL.nil (WE.then_normal (WC.sub (fr' := [(1, _), (2, _)]) ?_ ⟨rfl, rfl, trivial⟩))
  refine WC.seq (WC.region ?_)
  refine WL.q (oq_move rfl) rfl rfl rfl ?_
  refine WL.q (oq_move rfl) rfl rfl rfl ?_
  refine WL.f3 ?_
  refine WL.f2 ?_
  refine WL.callWE (fun a w hf => ent_inv1 hW.inv rfl rfl hf w) (hW.run _ G2 s Z data hG2 hr (by simp; omega) (by simp; omega)) rfl rfl rfl rfl fun v2_2 Hs2_2 hR2_2 => ?_
  obtain ⟨G3, rfl, rfl, hG3⟩ := hR2_2
  refine WL.app2 ?_
  refine WL.q (oq_move rfl) rfl rfl rfl ?_
  refine WL.q (oq_extract rfl rfl) rfl rfl rfl ?_
  refine WL.q (oq_extract rfl rfl) rfl rfl rfl ?_
  refine WL.q (oq_assign rfl) rfl rfl rfl ?_
  refine WL.q (oq_assign rfl) rfl rfl rfl ?_
  refine WL.nil (WE.then_normal (WC.sub (fr' := [(8, _)]) ?_ ⟨rfl, trivial⟩))
  refine WC.seq (WC.region ?_)
  refine WL.q (oq_move rfl) rfl rfl rfl ?_
  refine WL.q (oq_assign rfl) rfl rfl rfl ?_
  refine WL.nil (WE.then_normal (WC.sub (fr' := [(6, _)]) ?_ ⟨rfl, trivial⟩))
  refine WC.ret ?_
  refine WE.f2 ?_
  refine WE.forget ho1.fresh ?_
  refine WE.f2 ?_
  refine WE.lose hb0_0 ?_
  refine WE.endW2 (.inl rfl) (res1 Tryd.results110 rfl) ?_
  -- end 0
  exact ⟨_, rfl, rfl, by rw [List.append_assoc] at hG3; exact hG3⟩


theorem invBS : Inv1 Tryd.prog 45 "WriteString" 118 := fun x a w => by kernel_rfl
theorem askBS : AskYes Tryd.prog 45 160 := fun x u w => by kernel_rfl
theorem bufWrS (base bb : Nat) (acc : List UInt8) (G : Hp) (data : List UInt8) (hG : BufG base bb acc G) (hl : acc.length + data.length ≤ 400000) (h0 : 0 < acc.length + data.length) :
    FnW Tryd.prog 118 [Pt bb 0, S data] base [G] (fun w Hs => ∃ G', w = .tuple #[I (data.length : Int), .nilIface] ∧ Hs = [G'] ∧ BufG base bb (acc ++ data) G') := by
  obtain ⟨v, lr, A, rfl, hb⟩ := hG
  intro w0 R0 w hbase hw
  refine (bufWriteS base bb lr v A acc data hb (by omega) h0 w0 R0 w hbase (by simpa using hw)).mono ?_
  rintro e w' ⟨u, Hs, he, ⟨v2, A2, rfl, rfl, hb2⟩, hst⟩
  exact ⟨_, [BB bb v2 0 ++ A2], he, ⟨_, rfl, rfl, v2, 0, A2, rfl, hb2⟩, by simpa using hst⟩
/-- (given.example/pub-tinwright/pub/smithy/eventstream.rawValue).encodeString -/
theorem encString (base bb : Nat) (acc0 : List UInt8) (G : Hp) (hG : BufG base bb acc0 G) (t : UInt8) (l1 l2 : Value) (data : List UInt8) (hdl : data.length ≤ 32767) (hal : acc0.length ≤ 250000) : FnW Tryd.prog 95 [.agg #[.int .u8 (t.toNat : Int), l1, l2], .iface 45 (Pt bb 0), S data] base [G] (Then (BufG base bb) (acc0 ++ (t :: be 2 data.length ++ data)) []) := by
  refine FnW.enter (n := 55) Tryd.func95 rfl rfl fun w0 R0 hbase => ?_
  subst hbase
  show WC _ _ _ _ _ _ _ ([G, R0])
  refine WC.sub (fr' := [(0, _), (1, _), (2, _)]) ?_ ⟨rfl, rfl, rfl, trivial⟩
  refine WC.seq (WC.region ?_)
  refine WL.box rfl rfl rfl fun b0_0 hb0_0 => ?_
  refine WL.q (oq_assign rfl) rfl rfl rfl ?_
  refine WL.nil (WE.then_normal (WC.sub (fr' := [(1, _), (2, _), (3, _)]) ?_ ⟨rfl, rfl, rfl, trivial⟩))
  refine WC.seq (WC.seq (WC.region ?_))
  refine WL.q (oq_move rfl) rfl rfl rfl ?_
  refine WL.q (oq_len_s Tryd.underlying9 rfl) rfl rfl rfl ?_
  refine WL.q (oq_gtr rfl rfl) rfl rfl rfl ?_
  refine WL.nil (WE.then_normal (WC.sub (fr' := [(1, _), (2, _), (3, _), (12, _)]) ?_ ⟨rfl, rfl, rfl, rfl, trivial⟩))
  refine WC.cond rfl (fun q1 => ?_) (fun q1 => ?_)
  ·
    try simp only [Z1, Z2, Z3, Z4, Z5, Z6, Z7, Z8, Z9, Z0] at q1
    first | contradiction | (exfalso; omega) | (exfalso; simp_all; done)
  ·
    try simp only [Z1, Z2, Z3, Z4, Z5, Z6, Z7, Z8, Z9, Z0] at q1
    refine WC.skip (WE.then_normal (WC.sub (fr' := [(1, _), (2, _), (3, _)]) ?_ ⟨rfl, rfl, rfl, trivial⟩))
    refine WC.seq (WC.region ?_)
    refine WL.q (oq_move rfl) rfl rfl rfl ?_
    refine WL.q (oq_len_s Tryd.underlying9 rfl) rfl rfl rfl ?_
    refine WL.q (oq_conv Tryd.underlying3 Tryd.underlying103 rfl (by rw [u16_lo, u16_hi]; (first | omega | (simp only [List.length_cons, List.length_nil, List.length_append, List.length_drop, List.length_take]; omega)))) rfl rfl rfl ?_
    refine WL.q (oq_fieldAddr fld155_1 rfl) rfl rfl rfl ?_
    refine WL.store1 #[_, _, _] ty103 rfl rfl (by first | rfl | exact OwS.one one_) (Nat.lt_of_lt_of_le (Nat.lt_succ_self _) (Nat.le_of_ble_eq_true rfl)) rfl rfl ?_
    refine WL.nil (WE.then_normal (WC.sub (fr' := [(1, _), (2, _), (3, _)]) ?_ ⟨rfl, rfl, rfl, trivial⟩))
    refine WC.seq (WC.region ?_)
    refine WL.q (oq_move rfl) rfl rfl rfl ?_
    refine WL.q (oq_fieldAddr fld155_0 rfl) rfl rfl rfl ?_
    refine WL.q (oq_load flat101 rfl (.head _) (List.mem_singleton.2 rfl) rfl) rfl rfl rfl ?_
    refine WL.q (oq_makeI conc101 rfl) rfl rfl rfl ?_
    refine WL.q (oq_fieldAddr fld155_1 rfl) rfl rfl rfl ?_
    refine WL.q (oq_load flat103 rfl (.head _) (List.mem_singleton.2 rfl) rfl) rfl rfl rfl ?_
    refine WL.q (oq_makeI conc103 rfl) rfl rfl rfl ?_
    refine WL.buildL Tryd.underlying100 ty20 rfl rfl (by decide) (by decide) rfl rfl rfl fun v4 A4 ho4 hne4 => ?_
    refine WL.f2 ?_
    refine WL.f1 ?_
    refine WL.callW2 (zzWrite _ _ _ _ _ (bufWr _ bb) acc0 G hG v4 A4 [⟨101, .u8, 1, (t.toNat : Int)⟩, ⟨103, .u16, 2, (data.length : Int)⟩] ho4.rd (ok2 (okT _) (by simp [Num.ok, Num.kinds])) (by simp) (by simp; omega)) call28 rfl rfl rfl fun v4_8 Hs4_8 hR4_8 => ?_
    obtain ⟨G2, rfl, rfl, hG2⟩ := hR4_8
    rw [bytesN2] at hG2
    refine WL.to2 ?_
    refine WL.q (oq_assign rfl) rfl rfl rfl ?_
    refine WL.nil (WE.then_normal (WC.sub (fr' := [(1, _), (2, _), (7, _)]) ?_ ⟨rfl, rfl, rfl, trivial⟩))
    refine WC.seq (WC.seq (WC.region ?_))
    refine WL.q (oq_move rfl) rfl rfl rfl ?_
    refine WL.q (oq_ineq Tryd.underlying41 rfl (.inl rfl)) rfl rfl rfl ?_
    refine WL.nil (WE.then_normal (WC.sub (fr' := [(1, _), (2, _), (7, _), (33, _)]) ?_ ⟨rfl, rfl, rfl, rfl, trivial⟩))
    refine WC.cond rfl (fun q5 => ?_) (fun q5 => ?_)
    ·
      try simp only [Z1, Z2, Z3, Z4, Z5, Z6, Z7, Z8, Z9, Z0] at q5
      first | contradiction | (exfalso; omega) | (exfalso; simp_all; done)
    ·
      try simp only [Z1, Z2, Z3, Z4, Z5, Z6, Z7, Z8, Z9, Z0] at q5
      refine WC.skip (WE.then_normal (WC.sub (fr' := [(1, _), (2, _)]) ?_ ⟨rfl, rfl, trivial⟩))
      refine WC.seq (WC.seq (WC.region ?_))
      refine WL.q (oq_move rfl) rfl rfl rfl ?_
      refine WL.q (oq_askYes askBS rfl) rfl rfl rfl ?_
      refine WL.q (oq_move rfl) rfl rfl rfl ?_
      refine WL.q (oq_extract rfl rfl) rfl rfl rfl ?_
      refine WL.q (oq_extract rfl rfl) rfl rfl rfl ?_
      refine WL.q (oq_assign rfl) rfl rfl rfl ?_
      refine WL.q (oq_assign rfl) rfl rfl rfl ?_
      refine WL.nil (WE.then_normal (WC.sub (fr' := [(1, _), (2, _), (8, _), (9, _)]) ?_ ⟨rfl, rfl, rfl, rfl, trivial⟩))
      refine WC.seq (WC.region ?_)
      refine WL.q (oq_move rfl) rfl rfl rfl ?_
      refine WL.nil (WE.then_normal (WC.sub (fr' := [(1, _), (2, _), (8, _), (40, _)]) ?_ ⟨rfl, rfl, rfl, rfl, trivial⟩))
      refine WC.cond rfl (fun q8 => ?_) (fun q8 => ?_)
      ·
        try simp only [Z1, Z2, Z3, Z4, Z5, Z6, Z7, Z8, Z9, Z0] at q8
        refine WC.region ?_
        refine WL.q (oq_move rfl) rfl rfl rfl ?_
        refine WL.q (oq_move rfl) rfl rfl rfl ?_
        refine WL.f1 ?_
        refine WL.callWE (fun a w hf => ent_inv1 invBS rfl rfl hf w) (bufWrS _ bb _ G2 data hG2 (by simp [be_len]; omega) (by simp; omega)) rfl rfl rfl rfl fun v9_2 Hs9_2 hR9_2 => ?_
        obtain ⟨G3, rfl, rfl, hG3⟩ := hR9_2
        refine WL.app1 ?_
        refine WL.q (oq_move rfl) rfl rfl rfl ?_
        refine WL.q (oq_extract rfl rfl) rfl rfl rfl ?_
        refine WL.q (oq_extract rfl rfl) rfl rfl rfl ?_
        refine WL.q (oq_assign rfl) rfl rfl rfl ?_
        refine WL.nil (WE.then_normal (WC.sub (fr' := [(7, _)]) ?_ ⟨rfl, trivial⟩))
        refine WC.seq (WC.region ?_)
        refine WL.q (oq_move rfl) rfl rfl rfl ?_
        refine WL.q (oq_assign rfl) rfl rfl rfl ?_
        refine WL.nil (WE.then_normal (WC.sub (fr' := [(6, _)]) ?_ ⟨rfl, trivial⟩))
        refine WC.ret ?_
        refine WE.f1 ?_
        refine WE.forget ho4.fresh ?_
        refine WE.f1 ?_
        refine WE.lose hb0_0 ?_
        refine WE.endW1 (.inl rfl) (res1 Tryd.results95 rfl) ?_
        -- end 0
        exact ⟨_, rfl, rfl, by rw [List.append_assoc] at hG3; exact hG3⟩
      ·
        try simp only [Z1, Z2, Z3, Z4, Z5, Z6, Z7, Z8, Z9, Z0] at q8
        first | contradiction | (exfalso; omega) | (exfalso; simp_all; done)

end EF
end Go.Proofs.YtodlhaghdplclaaDoor
