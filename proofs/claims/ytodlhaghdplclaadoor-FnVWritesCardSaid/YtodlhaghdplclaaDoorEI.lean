/- Values of headers. -/
import Derived.Test.YtodlhaghdplclaaDoorEH
namespace Go.Proofs.YtodlhaghdplclaaDoor
open Go Go.RowKit V EA EB EC ED EE EF EG EH
set_option linter.unusedSimpArgs false
set_option linter.unusedVariables false
set_option maxRecDepth 10000
namespace EI
theorem call34 : Callable Tryd.prog 34 := ⟨_, Tryd.func34, rfl, by kernel_rfl⟩
theorem call89 : Callable Tryd.prog 89 := ⟨_, Tryd.func89, rfl, by kernel_rfl⟩
theorem call90 : Callable Tryd.prog 90 := ⟨_, Tryd.func90, rfl, by kernel_rfl⟩
theorem call94 : Callable Tryd.prog 94 := ⟨_, Tryd.func94, rfl, by kernel_rfl⟩
theorem call95 : Callable Tryd.prog 95 := ⟨_, Tryd.func95, rfl, by kernel_rfl⟩
theorem flat2 : Flat Tryd.prog 2 := ⟨_, Tryd.underlying2, by simp⟩
theorem flat3 : Flat Tryd.prog 3 := ⟨_, Tryd.underlying3, by simp⟩
theorem flat9 : Flat Tryd.prog 9 := ⟨_, Tryd.underlying9, by simp⟩
theorem ty2 : Ty Tryd.prog 2 (.int .i64 0) 1 8 := ty_of (by kernel_rfl)
theorem ty3 : Ty Tryd.prog 3 (.int .i64 0) 1 8 := ty_of (by kernel_rfl)
theorem ty5 : Ty Tryd.prog 5 (.int .u8 0) 1 1 := ty_of (by kernel_rfl)
theorem ty9 : Ty Tryd.prog 9 (S []) 1 16 := ty_of (by kernel_rfl)
theorem ty83 : Ty Tryd.prog 83 (.agg #[(S []), (.int .i64 0), (.int .i64 0), .nilIface]) 4 48 := ty_of (by kernel_rfl)
theorem ty115 : Ty Tryd.prog 115 (.agg #[(.int .u8 0), (.int .u8 0), (.int .u8 0), (.int .u8 0), (.int .u8 0), (.int .u8 0), (.int .u8 0), (.int .u8 0), (.int .u8 0), (.int .u8 0), (.int .u8 0), (.int .u8 0), (.int .u8 0), (.int .u8 0), (.int .u8 0), (.int .u8 0)]) 16 16 := ty_of (by kernel_rfl)
theorem ty155 : Ty Tryd.prog 155 (.agg #[(.int .u8 0), (.int .u16 0), (.slice none 0 0)]) 3 32 := ty_of (by kernel_rfl)
theorem conc9 : Conc Tryd.prog 9 := ⟨_, Tryd.underlying9, by simp⟩
theorem conc23 : Conc Tryd.prog 23 := ⟨_, Tryd.underlying23, by simp⟩
theorem conc83 : Conc Tryd.prog 83 := ⟨_, Tryd.underlying83, by simp⟩
theorem conc102 : Conc Tryd.prog 102 := ⟨_, Tryd.underlying102, by simp⟩
theorem conc105 : Conc Tryd.prog 105 := ⟨_, Tryd.underlying105, by simp⟩
theorem conc106 : Conc Tryd.prog 106 := ⟨_, Tryd.underlying106, by simp⟩
theorem conc107 : Conc Tryd.prog 107 := ⟨_, Tryd.underlying107, by simp⟩
theorem conc108 : Conc Tryd.prog 108 := ⟨_, Tryd.underlying108, by simp⟩
theorem conc109 : Conc Tryd.prog 109 := ⟨_, Tryd.underlying109, by simp⟩
theorem conc111 : Conc Tryd.prog 111 := ⟨_, Tryd.underlying111, by simp⟩
theorem conc115 : Conc Tryd.prog 115 := ⟨_, Tryd.underlying115, by simp⟩
theorem conc116 : Conc Tryd.prog 116 := ⟨_, Tryd.underlying116, by simp⟩
theorem agg115 : Agg Tryd.prog 115 := agg_arr Tryd.underlying115
theorem agg155 : Agg Tryd.prog 155 := agg_of Tryd.underlying155
theorem str83 : Str Tryd.prog 83 #[(0, 1), (1, 1), (2, 1), (3, 1)] := ⟨_, Tryd.underlying83, fun w => by kernel_rfl⟩
theorem str155 : Str Tryd.prog 155 #[(0, 1), (1, 1), (2, 1)] := ⟨_, Tryd.underlying155, fun w => by kernel_rfl⟩
theorem fld33_0 : Fld Tryd.prog 33 0 0 3 := fld_of Tryd.underlying33 rfl rfl rfl ty3 (by decide)
theorem fld33_1 : Fld Tryd.prog 33 1 1 3 := fld_of Tryd.underlying33 rfl rfl rfl ty3 (by decide)
theorem fld33_2 : Fld Tryd.prog 33 2 2 2 := fld_of Tryd.underlying33 rfl rfl rfl ty2 (by decide)
theorem fld33_3 : Fld Tryd.prog 33 3 3 9 := fld_of Tryd.underlying33 rfl rfl rfl ty9 (by decide)
/-- (given.example/pub-tinwright/pub/smithy/eventstream.rawValue).encodeBytes -/
theorem encBytesX (base : Nat) (t : UInt8) (l1 l2 k : Value) (s : Value) (Z G : Hp) (data : List UInt8) (hr : RdS 1 s Z data.length (bytesV data)) (hdl : 32767 < data.length) (hl : data.length ≤ 400000) : FnW Tryd.prog 90 [.agg #[.int .u8 (t.toNat : Int), l1, l2], k, s] base [G, Z] (fun w Hs => ∃ e, w = .iface 83 e ∧ Hs = [G, Z]) := by
  refine FnW.enter (n := 40) Tryd.func90 rfl rfl fun w0 R0 hbase => ?_
  subst hbase
  show WC _ _ _ _ _ _ _ ([G, Z, R0])
  refine WC.sub (fr' := [(0, _), (1, _), (2, _)]) ?_ ⟨rfl, rfl, rfl, trivial⟩
  refine WC.seq (WC.region ?_)
  refine WL.box rfl rfl rfl fun b0_0 hb0_0 => ?_
  refine WL.q (oq_assign rfl) rfl rfl rfl ?_
  refine WL.nil (WE.then_normal (WC.sub (fr' := [(1, _), (2, _), (3, _)]) ?_ ⟨rfl, rfl, rfl, trivial⟩))
  refine WC.seq (WC.seq (WC.region ?_))
  refine WL.q (oq_move rfl) rfl rfl rfl ?_
  refine WL.q (oq_len_rd hr Tryd.underlying23 rfl) rfl rfl rfl ?_
  refine WL.q (oq_gtr rfl rfl) rfl rfl rfl ?_
  refine WL.nil (WE.then_normal (WC.sub (fr' := [(1, _), (2, _), (3, _), (10, _)]) ?_ ⟨rfl, rfl, rfl, rfl, trivial⟩))
  refine WC.cond rfl (fun q1 => ?_) (fun q1 => ?_)
  ·
    try simp only [Z1, Z2, Z3, Z4, Z5, Z6, Z7, Z8, Z9, Z0] at q1
    refine WC.seq (WC.region ?_)
    refine WL.q (oq_move rfl) rfl rfl rfl ?_
    refine WL.q (oq_len_rd hr Tryd.underlying23 rfl) rfl rfl rfl ?_
    refine WL.q (oq_move rfl) rfl rfl rfl ?_
    refine WL.q (oq_makeI conc23 rfl) rfl rfl rfl ?_
    refine WL.q (oq_build #[_, _, _, _] str83 ty83 rfl rfl) rfl rfl rfl ?_
    refine WL.q (oq_makeI conc83 rfl) rfl rfl rfl ?_
    refine WL.q (oq_assign rfl) rfl rfl rfl ?_
    refine WL.nil (WE.then_normal (WC.sub (fr' := [(6, _)]) ?_ ⟨rfl, trivial⟩))
    refine WC.ret (WE.then_ret ?_)
    refine WE.lose hb0_0 ?_
    refine WE.endW2 (.inl rfl) (res1 Tryd.results90 rfl) ?_
    -- end 0
    exact ⟨_, rfl, rfl⟩
  ·
    try simp only [Z1, Z2, Z3, Z4, Z5, Z6, Z7, Z8, Z9, Z0] at q1
    first | contradiction | (exfalso; omega) | (exfalso; simp_all; done)

/-- (given.example/pub-tinwright/pub/smithy/eventstream.rawValue).encodeString -/
theorem encStringX (base : Nat) (t : UInt8) (l1 l2 k : Value) (G : Hp) (data : List UInt8) (hdl : 32767 < data.length) (hl : data.length ≤ 400000) : FnW Tryd.prog 95 [.agg #[.int .u8 (t.toNat : Int), l1, l2], k, S data] base [G] (fun w Hs => ∃ e, w = .iface 83 e ∧ Hs = [G]) := by
  refine FnW.enter (n := 55) Tryd.func95 rfl rfl fun w0 R0 hbase => ?_
  subst hbase
  show WC _ _ _ _ _ _ _ ([G, R0])
  refine WC.sub (fr' := [(0, _), (1, _), (2, _)]) ?_ ⟨rfl, rfl, rfl, trivial⟩
  refine WC.seq (WC.region ?_)
  refine WL.box rfl rfl rfl fun b0_0 hb0_0 => ?_
  refine WL.q (oq_assign rfl) rfl rfl rfl ?_
  refine WL.nil (WE.then_normal (WC.sub (fr' := [(1, _), (2, _), (3, _)]) ?_ ⟨rfl, rfl, rfl, trivial⟩))
  refine WC.seq (WC.seq (WC.region ?_))
  refine WL.q (oq_move rfl) rfl rfl rfl ?_
  refine WL.q (oq_len_s Tryd.underlying9 rfl) rfl rfl rfl ?_
  refine WL.q (oq_gtr rfl rfl) rfl rfl rfl ?_
  refine WL.nil (WE.then_normal (WC.sub (fr' := [(1, _), (2, _), (3, _), (12, _)]) ?_ ⟨rfl, rfl, rfl, rfl, trivial⟩))
  refine WC.cond rfl (fun q1 => ?_) (fun q1 => ?_)
  ·
    try simp only [Z1, Z2, Z3, Z4, Z5, Z6, Z7, Z8, Z9, Z0] at q1
    refine WC.seq (WC.region ?_)
    refine WL.q (oq_move rfl) rfl rfl rfl ?_
    refine WL.q (oq_len_s Tryd.underlying9 rfl) rfl rfl rfl ?_
    refine WL.q (oq_move rfl) rfl rfl rfl ?_
    refine WL.q (oq_makeI conc9 rfl) rfl rfl rfl ?_
    refine WL.q (oq_build #[_, _, _, _] str83 ty83 rfl rfl) rfl rfl rfl ?_
    refine WL.q (oq_makeI conc83 rfl) rfl rfl rfl ?_
    refine WL.q (oq_assign rfl) rfl rfl rfl ?_
    refine WL.nil (WE.then_normal (WC.sub (fr' := [(6, _)]) ?_ ⟨rfl, trivial⟩))
    refine WC.ret (WE.then_ret ?_)
    refine WE.lose hb0_0 ?_
    refine WE.endW1 (.inl rfl) (res1 Tryd.results95 rfl) ?_
    -- end 0
    exact ⟨_, rfl, rfl⟩
  ·
    try simp only [Z1, Z2, Z3, Z4, Z5, Z6, Z7, Z8, Z9, Z0] at q1
    first | contradiction | (exfalso; omega) | (exfalso; simp_all; done)

/-- (given.example/pub-tinwright/pub/smithy/eventstream.BytesValue).encode -/
theorem encBytesValueX (base : Nat) (k : Value) (s : Value) (Z G : Hp) (data : List UInt8) (hr : RdS 1 s Z data.length (bytesV data)) (hdl : 32767 < data.length) (hl : data.length ≤ 400000) : FnW Tryd.prog 88 [s, k] base [G, Z] (fun w Hs => ∃ e, w = .iface 83 e ∧ Hs = [G, Z]) := by
  refine FnW.enter (n := 13) Tryd.func88 rfl rfl fun w0 R0 hbase => ?_
  subst hbase
  show WC _ _ _ _ _ _ _ ([G, Z, R0])
  refine WC.sub (fr' := [(0, _), (1, _)]) ?_ ⟨rfl, rfl, trivial⟩
  refine WC.seq (WC.region ?_)
  refine WL.q (oq_assign rfl) rfl rfl rfl ?_
  refine WL.nil (WE.then_normal (WC.sub (fr' := [(0, _), (1, _)]) ?_ ⟨rfl, rfl, trivial⟩))
  refine WC.seq (WC.region ?_)
  refine WL.q (oq_move rfl) rfl rfl rfl ?_
  refine WL.qc (oq_call (vtBytesValue s) call89 rfl) rfl rfl rfl ?_
  refine WL.q (oq_build #[_, _, _] str155 ty155 rfl rfl) rfl rfl rfl ?_
  refine WL.alloc ty155 rfl rfl fun b1_3 hb1_3 => ?_
  refine WL.storeS #[_, _, _] ty155 rfl rfl rfl rfl (Nat.le_of_ble_eq_true rfl) rfl rfl ?_
  refine WL.nil (WE.then_normal (WC.sub (fr' := [(0, _), (1, _), (5, _)]) ?_ ⟨rfl, rfl, rfl, trivial⟩))
  refine WC.seq (WC.region ?_)
  refine WL.q (oq_loadS [_, _, _] agg155 ty155 rfl (.head _) (List.mem_singleton.2 rfl) rfl rfl) rfl rfl rfl ?_
  refine WL.q (oq_move rfl) rfl rfl rfl ?_
  refine WL.q (oq_move rfl) rfl rfl rfl ?_
  refine WL.f2 ?_
  refine WL.f2 ?_
  refine WL.callW2 (encBytesX _ 6 (.int .u16 0) (.slice none 0 0) k s Z G data hr hdl hl) call90 rfl rfl rfl fun v2_3 Hs2_3 hR2_3 => ?_
  obtain ⟨e, rfl, rfl⟩ := hR2_3
  refine WL.to2 ?_
  refine WL.q (oq_assign rfl) rfl rfl rfl ?_
  refine WL.nil (WE.then_normal (WC.sub (fr' := [(4, _)]) ?_ ⟨rfl, trivial⟩))
  refine WC.ret ?_
  refine WE.f2 ?_
  refine WE.lose hb1_3 ?_
  refine WE.endW2 (.inl rfl) (res1 Tryd.results88 rfl) ?_
  -- end 0
  exact ⟨_, rfl, rfl⟩

/-- (given.example/pub-tinwright/pub/smithy/eventstream.StringValue).encode -/
theorem encStringValueX (base : Nat) (k : Value) (G : Hp) (data : List UInt8) (hdl : 32767 < data.length) (hl : data.length ≤ 400000) : FnW Tryd.prog 93 [S data, k] base [G] (fun w Hs => ∃ e, w = .iface 83 e ∧ Hs = [G]) := by
  refine FnW.enter (n := 13) Tryd.func93 rfl rfl fun w0 R0 hbase => ?_
  subst hbase
  show WC _ _ _ _ _ _ _ ([G, R0])
  refine WC.sub (fr' := [(0, _), (1, _)]) ?_ ⟨rfl, rfl, trivial⟩
  refine WC.seq (WC.region ?_)
  refine WL.q (oq_assign rfl) rfl rfl rfl ?_
  refine WL.nil (WE.then_normal (WC.sub (fr' := [(0, _), (1, _)]) ?_ ⟨rfl, rfl, trivial⟩))
  refine WC.seq (WC.region ?_)
  refine WL.q (oq_move rfl) rfl rfl rfl ?_
  refine WL.qc (oq_call (vtStringValue (S data)) call94 rfl) rfl rfl rfl ?_
  refine WL.q (oq_build #[_, _, _] str155 ty155 rfl rfl) rfl rfl rfl ?_
  refine WL.alloc ty155 rfl rfl fun b1_3 hb1_3 => ?_
  refine WL.storeS #[_, _, _] ty155 rfl rfl rfl rfl (Nat.le_of_ble_eq_true rfl) rfl rfl ?_
  refine WL.nil (WE.then_normal (WC.sub (fr' := [(0, _), (1, _), (5, _)]) ?_ ⟨rfl, rfl, rfl, trivial⟩))
  refine WC.seq (WC.region ?_)
  refine WL.q (oq_loadS [_, _, _] agg155 ty155 rfl (.head _) (List.mem_singleton.2 rfl) rfl rfl) rfl rfl rfl ?_
  refine WL.q (oq_move rfl) rfl rfl rfl ?_
  refine WL.q (oq_move rfl) rfl rfl rfl ?_
  refine WL.f1 ?_
  refine WL.callW1 (encStringX _ 7 (.int .u16 0) (.slice none 0 0) k G data hdl hl) call95 rfl rfl rfl fun v2_3 Hs2_3 hR2_3 => ?_
  obtain ⟨e, rfl, rfl⟩ := hR2_3
  refine WL.to1 ?_
  refine WL.q (oq_assign rfl) rfl rfl rfl ?_
  refine WL.nil (WE.then_normal (WC.sub (fr' := [(4, _)]) ?_ ⟨rfl, trivial⟩))
  refine WC.ret ?_
  refine WE.f1 ?_
  refine WE.lose hb1_3 ?_
  refine WE.endW1 (.inl rfl) (res1 Tryd.results93 rfl) ?_
  -- end 0
  exact ⟨_, rfl, rfl⟩


/-- a header, as the law's caller tells it -/
structure HV where
  name : List UInt8
  kind : Int
  width : Int
  int : Int
  text : List UInt8
def HV.row (h : HV) : List Value := [S h.name, I h.kind, I h.width, I h.int, S h.text]
def HV.val (h : HV) : Value := .agg #[I h.kind, I h.width, I h.int, S h.text]
def fineV (h : HV) : Prop := 0 ≤ h.kind ∧ h.kind ≤ 5 ∧ (h.kind = 1 → (h.width = 8 ∧ -128 ≤ h.int ∧ h.int ≤ 127) ∨ (h.width = 16 ∧ -32768 ≤ h.int ∧ h.int ≤ 32767) ∨ (h.width = 32 ∧ -2147483648 ≤ h.int ∧ h.int ≤ 2147483647) ∨ h.width = 64) ∧ (h.kind = 5 → h.text.length = 16) ∧ (h.kind = 4 → -9200000000000 ≤ h.int ∧ h.int ≤ 9200000000000)
def badT (h : HV) : Bool := (h.kind == 2 || h.kind == 3) && decide (32767 < h.text.length)
def tagW (w : Int) : UInt8 := if w = 8 then 2 else if w = 16 then 3 else if w = 32 then 4 else 5
def enc (h : HV) : List UInt8 :=
  if h.kind = 1 then tagW h.width :: be (h.width / 8).toNat h.int
  else if h.kind = 2 then 6 :: be 2 h.text.length ++ h.text
  else if h.kind = 3 then 7 :: be 2 h.text.length ++ h.text
  else if h.kind = 4 then 8 :: be 8 h.int
  else if h.kind = 5 then 9 :: h.text
  else [if h.int = 0 then 1 else 0]
abbrev encName : String := "given.example/pub-tinwright/pub/smithy/eventstream.encode"
/-- a value written, or not: its text is too long -/
def EncR (base bb : Nat) (h : HV) (acc : List UInt8) (N : Hp) (w : Value) (Hs : List Hp) : Prop :=
  if badT h then ∃ e G', w = .iface 83 e ∧ Hs = [G', N] ∧ BufG base bb acc G' else ∃ G', w = .nilIface ∧ Hs = [G', N] ∧ BufG base bb (acc ++ enc h) G'
/-- the value is the header's: how it is written -/
def VOk (h : HV) (v : Value) (N : Hp) : Prop :=
  ∃ k r f, v = .iface k r ∧ Inv1 Tryd.prog k encName f ∧ ∀ base bb acc G, BufG base bb acc G → acc.length ≤ 250000 → FnW Tryd.prog f [r, (.iface 45 (Pt bb 0))] base [G, N] (EncR base bb h acc N)
theorem VOk.wide {h : HV} {v : Value} {N Z D : Hp} (hv : VOk h v N) (p : Z.Perm (N ++ D)) : VOk h v Z := by
  obtain ⟨k, r, f, rfl, hi, hf⟩ := hv
  refine ⟨k, r, f, rfl, hi, fun base bb acc G hG hl w0 R0 w hbase hw => ?_⟩
  have p1 : (([G, Z] : List Hp) ++ [R0]).flatten.Perm (([G, N] : List Hp) ++ [D ++ R0]).flatten := by
    simp only [List.cons_append, List.nil_append, List.flatten_cons, List.flatten_nil, List.append_nil, List.append_assoc]
    refine List.Perm.append_left _ ?_
    rw [← List.append_assoc]
    exact p.append_right _
  refine (hf base bb acc G hG hl w0 (D ++ R0) w hbase (hw.perm p1)).mono ?_
  rintro e w' ⟨u, Hs, he, hR, hst⟩
  have back : ∀ G' : Hp, (([G', N] : List Hp) ++ [D ++ R0]).flatten.Perm (([G', Z] : List Hp) ++ [R0]).flatten := fun G' => by
    simp only [List.cons_append, List.nil_append, List.flatten_cons, List.flatten_nil, List.append_nil, List.append_assoc]
    refine List.Perm.append_left _ ?_
    rw [← List.append_assoc]
    exact (p.append_right _).symm
  unfold EncR at hR ⊢
  split at hR
  · obtain ⟨e1, G', rfl, rfl, hG1⟩ := hR
    exact ⟨_, [G', Z], he, by rename_i hb; rw [if_pos hb]; exact ⟨e1, G', rfl, rfl, hG1⟩, hst.perm (back G')⟩
  · obtain ⟨G', rfl, rfl, hG'⟩ := hR
    exact ⟨_, [G', Z], he, by rename_i hb; rw [if_neg hb]; exact ⟨G', rfl, rfl, hG'⟩, hst.perm (back G')⟩
theorem vok0 {h : HV} {k : TypeId} {r : Value} {f : FuncId} (hi : Inv1 Tryd.prog k encName f) (hb : badT h = false) (hf : ∀ base bb acc G, BufG base bb acc G → acc.length ≤ 250000 → FnW Tryd.prog f [r, (.iface 45 (Pt bb 0))] base [G] (Then (BufG base bb) (acc ++ enc h) [])) : VOk h (.iface k r) [] := by
  refine ⟨k, r, f, rfl, hi, fun base bb acc G hG hl w0 R0 w hbase hw => ?_⟩
  refine (hf base bb acc G hG hl w0 R0 w hbase (by simpa using hw)).mono ?_
  rintro e w' ⟨u, Hs, he, ⟨G', rfl, rfl, hG'⟩, hst⟩
  exact ⟨_, [G', []], he, by unfold EncR; rw [hb]; exact ⟨G', rfl, rfl, hG'⟩, by simpa using hst⟩
theorem vokX {h : HV} {k : TypeId} {r : Value} {f : FuncId} (hi : Inv1 Tryd.prog k encName f) (hb : badT h = true) (hf : ∀ base bb G, FnW Tryd.prog f [r, (.iface 45 (Pt bb 0))] base [G] (fun w Hs => ∃ e, w = .iface 83 e ∧ Hs = [G])) : VOk h (.iface k r) [] := by
  refine ⟨k, r, f, rfl, hi, fun base bb acc G hG hl w0 R0 w hbase hw => ?_⟩
  refine (hf base bb G w0 R0 w hbase (by simpa using hw)).mono ?_
  rintro e w' ⟨u, Hs, he, ⟨e1, rfl, rfl⟩, hst⟩
  exact ⟨_, [G, []], he, by unfold EncR; rw [hb]; exact ⟨e1, G, rfl, rfl, hG⟩, by simpa using hst⟩
theorem invInt8Value : Inv1 Tryd.prog 102 encName 71 := fun x a w => by kernel_rfl
theorem invInt16Value : Inv1 Tryd.prog 105 encName 76 := fun x a w => by kernel_rfl
theorem invInt32Value : Inv1 Tryd.prog 106 encName 80 := fun x a w => by kernel_rfl
theorem invInt64Value : Inv1 Tryd.prog 107 encName 84 := fun x a w => by kernel_rfl
theorem invBytesValue : Inv1 Tryd.prog 108 encName 88 := fun x a w => by kernel_rfl
theorem invStringValue : Inv1 Tryd.prog 109 encName 93 := fun x a w => by kernel_rfl
theorem invTimestampValue : Inv1 Tryd.prog 111 encName 98 := fun x a w => by kernel_rfl
theorem invUUIDValue : Inv1 Tryd.prog 115 encName 108 := fun x a w => by kernel_rfl
theorem invBoolValue : Inv1 Tryd.prog 116 encName 113 := fun x a w => by kernel_rfl
theorem enc_1 {h : HV} (hk : h.kind = 1) : enc h = tagW h.width :: be (h.width / 8).toNat h.int := by unfold enc; rw [if_pos hk]
theorem bad_no {h : HV} (h2 : h.kind ≠ 2) (h3 : h.kind ≠ 3) : badT h = false := by unfold badT; simp [h2, h3]
theorem vokInt8Value {h : HV} (hk : h.kind = 1) (hw : h.width = 8) : VOk h (.iface 102 (.int .i8 h.int)) [] := by
  refine vok0 invInt8Value (bad_no (by omega) (by omega)) fun base bb acc G hG hal => ?_
  have he : enc h = 2 :: be 1 h.int := by rw [enc_1 hk, hw]; rfl
  rw [he]
  exact encInt8Value base _ _ _ _ (bufWr base bb) acc G hG h.int (by omega)
theorem vokInt16Value {h : HV} (hk : h.kind = 1) (hw : h.width = 16) : VOk h (.iface 105 (.int .i16 h.int)) [] := by
  refine vok0 invInt16Value (bad_no (by omega) (by omega)) fun base bb acc G hG hal => ?_
  have he : enc h = 3 :: be 2 h.int := by rw [enc_1 hk, hw]; rfl
  rw [he]
  exact encInt16Value base _ _ _ _ (bufWr base bb) acc G hG h.int (by omega)
theorem vokInt32Value {h : HV} (hk : h.kind = 1) (hw : h.width = 32) : VOk h (.iface 106 (.int .i32 h.int)) [] := by
  refine vok0 invInt32Value (bad_no (by omega) (by omega)) fun base bb acc G hG hal => ?_
  have he : enc h = 4 :: be 4 h.int := by rw [enc_1 hk, hw]; rfl
  rw [he]
  exact encInt32Value base _ _ _ _ (bufWr base bb) acc G hG h.int (by omega)
theorem vokInt64Value {h : HV} (hk : h.kind = 1) (hw : h.width = 64) : VOk h (.iface 107 (.int .i64 h.int)) [] := by
  refine vok0 invInt64Value (bad_no (by omega) (by omega)) fun base bb acc G hG hal => ?_
  have he : enc h = 5 :: be 8 h.int := by rw [enc_1 hk, hw]; rfl
  rw [he]
  exact encInt64Value base _ _ _ _ (bufWr base bb) acc G hG h.int (by omega)

theorem vokBytes {h : HV} {s : Value} {N : Hp} (hk : h.kind = 2) (hr : RdS 1 s N h.text.length (bytesV h.text)) (hl : h.text.length ≤ 400000) : VOk h (.iface 108 s) N := by
  refine ⟨_, _, _, rfl, invBytesValue, fun base bb acc G hG hal => ?_⟩
  by_cases hb : 32767 < h.text.length
  · refine (encBytesValueX base _ s N G h.text hr hb hl).mono ?_
    rintro w Hs ⟨e, rfl, rfl⟩
    have hbd : badT h = true := by unfold badT; simp [hk, hb]
    unfold EncR; rw [hbd]
    exact ⟨e, G, rfl, rfl, hG⟩
  · refine (encBytesValue base _ _ _ _ (bufWr base bb) acc G hG s N h.text hr (by omega) hal).mono ?_
    rintro w Hs ⟨G', rfl, rfl, hG'⟩
    have he : enc h = 6 :: be 2 h.text.length ++ h.text := by unfold enc; rw [if_neg (by omega), if_pos hk]
    have hbd : badT h = false := by unfold badT; simp [hb]
    unfold EncR; rw [hbd]
    exact ⟨G', rfl, rfl, by rw [he]; exact hG'⟩
theorem vokString {h : HV} (hk : h.kind = 3) (hl : h.text.length ≤ 400000) : VOk h (.iface 109 (S h.text)) [] := by
  by_cases hb : 32767 < h.text.length
  · exact vokX invStringValue (by unfold badT; simp [hk, hb]) fun base bb G => encStringValueX base _ G h.text hb hl
  · refine vok0 invStringValue (by unfold badT; simp [hb]) fun base bb acc G hG hal => ?_
    have he : enc h = 7 :: be 2 h.text.length ++ h.text := by unfold enc; rw [if_neg (by omega), if_neg (by omega), if_pos hk]
    rw [he]
    exact encStringValue base bb acc G hG h.text (by omega) hal
theorem vokTime {h : HV} (hk : h.kind = 4) (h1 : -9200000000000 ≤ h.int) (h2 : h.int ≤ 9200000000000) : VOk h (.iface 111 (msV h.int)) [] := by
  refine vok0 invTimestampValue (bad_no (by omega) (by omega)) fun base bb acc G hG hal => ?_
  have he : enc h = 8 :: be 8 h.int := by unfold enc; rw [if_neg (by omega), if_neg (by omega), if_neg (by omega), if_pos hk]
  rw [he]
  exact encTimestampValue base _ _ _ _ (bufWr base bb) acc G hG h.int h1 h2 (by omega)
theorem vokUUID {h : HV} (hk : h.kind = 5) (hl : h.text.length = 16) : VOk h (.iface 115 (.agg (bytesV h.text).toArray)) [] := by
  refine vok0 invUUIDValue (bad_no (by omega) (by omega)) fun base bb acc G hG hal => ?_
  have he : enc h = 9 :: h.text := by unfold enc; rw [if_neg (by omega), if_neg (by omega), if_neg (by omega), if_neg (by omega), if_pos hk]
  rw [he]
  exact encUUIDValue base _ _ _ _ (bufWr base bb) acc G hG h.text hl hal
theorem vokBool {h : HV} (hk : h.kind = 0) : VOk h (.iface 116 (.bool (decide (¬ h.int = 0)))) [] := by
  refine vok0 invBoolValue (bad_no (by omega) (by omega)) fun base bb acc G hG hal => ?_
  have he : enc h = [if (decide (¬ h.int = 0)) then 0 else 1] := by
    unfold enc; rw [if_neg (by omega), if_neg (by omega), if_neg (by omega), if_neg (by omega), if_neg (by omega)]
    by_cases h0 : h.int = 0 <;> simp [h0]
  rw [he]
  exact encBoolValue base _ _ _ _ (bufWr base bb) acc G hG _ (by omega)
/-- given.example/pub-tinwright/impl.valueFor -/
theorem valueFor (h : HV) (hf : fineV h) (hl : h.text.length ≤ 400000) : FnA Tryd.prog 29 [.agg #[I h.kind, I h.width, I h.int, S h.text]] [] (fun v N => VOk h v N) := by
  obtain ⟨hk0, hk5, hwd, hun, htm⟩ := hf
  refine FnA.enter0 (n := 60) Tryd.func29 rfl rfl fun w0 => ?_
  refine WC.sub (fr' := [(0, _)]) ?_ ⟨rfl, trivial⟩
  refine WC.seq (WC.region ?_)
  refine WL.box rfl rfl rfl fun b0_0 hb0_0 => ?_
  refine WL.q (oq_assign rfl) rfl rfl rfl ?_
  refine WL.nil (WE.then_normal (WC.sub (fr' := [(1, _)]) ?_ ⟨rfl, trivial⟩))
  refine WC.seq (WC.seq (WC.region ?_))
  refine WL.q (oq_fieldAddr fld33_0 rfl) rfl rfl rfl ?_
  refine WL.q (oq_load flat3 rfl (.head _) (List.mem_singleton.2 rfl) rfl) rfl rfl rfl ?_
  refine WL.nil (WE.then_normal (WC.sub (fr' := [(1, _), (5, _)]) ?_ ⟨rfl, rfl, trivial⟩))
  refine WC.block (WC.seq (WC.region ?_))
  refine WL.q (oq_eql rfl rfl) rfl rfl rfl ?_
  refine WL.q (oq_assign rfl) rfl rfl rfl ?_
  refine WL.nil (WE.then_normal (WC.sub (fr' := [(1, _), (5, _), (6, _)]) ?_ ⟨rfl, rfl, rfl, trivial⟩))
  refine WC.cond rfl (fun q2 => ?_) (fun q2 => ?_)
  ·
    try simp only [Z1, Z2, Z3, Z4, Z5, Z6, Z7, Z8, Z9, Z0] at q2
    refine WC.seq (WC.seq (WC.region ?_))
    refine WL.q (oq_fieldAddr fld33_1 rfl) rfl rfl rfl ?_
    refine WL.q (oq_load flat3 rfl (.head _) (List.mem_singleton.2 rfl) rfl) rfl rfl rfl ?_
    refine WL.nil (WE.then_normal (WC.sub (fr' := [(1, _), (9, _)]) ?_ ⟨rfl, rfl, trivial⟩))
    refine WC.block (WC.seq (WC.region ?_))
    refine WL.q (oq_eql rfl rfl) rfl rfl rfl ?_
    refine WL.q (oq_assign rfl) rfl rfl rfl ?_
    refine WL.nil (WE.then_normal (WC.sub (fr' := [(1, _), (9, _), (10, _)]) ?_ ⟨rfl, rfl, rfl, trivial⟩))
    refine WC.cond rfl (fun q4 => ?_) (fun q4 => ?_)
    ·
      try simp only [Z1, Z2, Z3, Z4, Z5, Z6, Z7, Z8, Z9, Z0] at q4
      refine WC.seq ?_
      have hw8 := hwd q2
      refine WC.region ?_
      refine WL.q (oq_fieldAddr fld33_2 rfl) rfl rfl rfl ?_
      refine WL.q (oq_load flat2 rfl (.head _) (List.mem_singleton.2 rfl) rfl) rfl rfl rfl ?_
      refine WL.q (oq_conv Tryd.underlying2 Tryd.underlying102 rfl (by rw [i8_lo, i8_hi]; (first | omega | (simp only [List.length_cons, List.length_nil, List.length_append, List.length_drop, List.length_take]; omega)))) rfl rfl rfl ?_
      refine WL.q (oq_makeI conc102 rfl) rfl rfl rfl ?_
      refine WL.q (oq_assign rfl) rfl rfl rfl ?_
      refine WL.nil (WE.then_normal (WC.sub (fr' := [(2, _)]) ?_ ⟨rfl, trivial⟩))
      refine WC.ret (WE.block_ret (WE.then_ret (WE.block_ret (WE.then_ret ?_))))
      refine WE.lose hb0_0 ?_
      refine WE.add0 ?_
      refine WE.endA0 (.inl rfl) (res1 Tryd.results29 rfl) ?_ fresh0
      -- end 0
      exact vokInt8Value q2 q4
    ·
      try simp only [Z1, Z2, Z3, Z4, Z5, Z6, Z7, Z8, Z9, Z0] at q4
      refine WC.seq (WC.region ?_)
      refine WL.q (oq_eql rfl rfl) rfl rfl rfl ?_
      refine WL.q (oq_assign rfl) rfl rfl rfl ?_
      refine WL.nil (WE.then_normal (WC.sub (fr' := [(1, _), (9, _), (16, _)]) ?_ ⟨rfl, rfl, rfl, trivial⟩))
      refine WC.cond rfl (fun q6 => ?_) (fun q6 => ?_)
      ·
        try simp only [Z1, Z2, Z3, Z4, Z5, Z6, Z7, Z8, Z9, Z0] at q6
        refine WC.seq ?_
        have hw8 := hwd q2
        refine WC.region ?_
        refine WL.q (oq_fieldAddr fld33_2 rfl) rfl rfl rfl ?_
        refine WL.q (oq_load flat2 rfl (.head _) (List.mem_singleton.2 rfl) rfl) rfl rfl rfl ?_
        refine WL.q (oq_conv Tryd.underlying2 Tryd.underlying105 rfl (by rw [i16_lo, i16_hi]; (first | omega | (simp only [List.length_cons, List.length_nil, List.length_append, List.length_drop, List.length_take]; omega)))) rfl rfl rfl ?_
        refine WL.q (oq_makeI conc105 rfl) rfl rfl rfl ?_
        refine WL.q (oq_assign rfl) rfl rfl rfl ?_
        refine WL.nil (WE.then_normal (WC.sub (fr' := [(2, _)]) ?_ ⟨rfl, trivial⟩))
        refine WC.ret (WE.block_ret (WE.then_ret (WE.block_ret (WE.then_ret ?_))))
        refine WE.lose hb0_0 ?_
        refine WE.add0 ?_
        refine WE.endA0 (.inl rfl) (res1 Tryd.results29 rfl) ?_ fresh0
        -- end 1
        exact vokInt16Value q2 q6
      ·
        try simp only [Z1, Z2, Z3, Z4, Z5, Z6, Z7, Z8, Z9, Z0] at q6
        refine WC.seq (WC.region ?_)
        refine WL.q (oq_eql rfl rfl) rfl rfl rfl ?_
        refine WL.q (oq_assign rfl) rfl rfl rfl ?_
        refine WL.nil (WE.then_normal (WC.sub (fr' := [(1, _), (22, _)]) ?_ ⟨rfl, rfl, trivial⟩))
        refine WC.cond rfl (fun q8 => ?_) (fun q8 => ?_)
        ·
          try simp only [Z1, Z2, Z3, Z4, Z5, Z6, Z7, Z8, Z9, Z0] at q8
          refine WC.seq ?_
          have hw8 := hwd q2
          refine WC.region ?_
          refine WL.q (oq_fieldAddr fld33_2 rfl) rfl rfl rfl ?_
          refine WL.q (oq_load flat2 rfl (.head _) (List.mem_singleton.2 rfl) rfl) rfl rfl rfl ?_
          refine WL.q (oq_conv Tryd.underlying2 Tryd.underlying106 rfl (by rw [i32_lo, i32_hi]; (first | omega | (simp only [List.length_cons, List.length_nil, List.length_append, List.length_drop, List.length_take]; omega)))) rfl rfl rfl ?_
          refine WL.q (oq_makeI conc106 rfl) rfl rfl rfl ?_
          refine WL.q (oq_assign rfl) rfl rfl rfl ?_
          refine WL.nil (WE.then_normal (WC.sub (fr' := [(2, _)]) ?_ ⟨rfl, trivial⟩))
          refine WC.ret (WE.block_ret (WE.then_ret (WE.block_ret (WE.then_ret ?_))))
          refine WE.lose hb0_0 ?_
          refine WE.add0 ?_
          refine WE.endA0 (.inl rfl) (res1 Tryd.results29 rfl) ?_ fresh0
          -- end 2
          exact vokInt32Value q2 q8
        ·
          try simp only [Z1, Z2, Z3, Z4, Z5, Z6, Z7, Z8, Z9, Z0] at q8
          refine WC.skip (WE.block_normal (WE.then_normal (WC.sub (fr' := [(1, _)]) ?_ ⟨rfl, trivial⟩)))
          refine WC.seq ?_
          have hw8 := hwd q2
          refine WC.region ?_
          refine WL.q (oq_fieldAddr fld33_2 rfl) rfl rfl rfl ?_
          refine WL.q (oq_load flat2 rfl (.head _) (List.mem_singleton.2 rfl) rfl) rfl rfl rfl ?_
          refine WL.q (oq_makeI conc107 rfl) rfl rfl rfl ?_
          refine WL.q (oq_assign rfl) rfl rfl rfl ?_
          refine WL.nil (WE.then_normal (WC.sub (fr' := [(2, _)]) ?_ ⟨rfl, trivial⟩))
          refine WC.ret (WE.block_ret (WE.then_ret ?_))
          refine WE.lose hb0_0 ?_
          refine WE.add0 ?_
          refine WE.endA0 (.inl rfl) (res1 Tryd.results29 rfl) ?_ fresh0
          -- end 3
          exact vokInt64Value q2 (by omega)
  ·
    try simp only [Z1, Z2, Z3, Z4, Z5, Z6, Z7, Z8, Z9, Z0] at q2
    refine WC.seq (WC.region ?_)
    refine WL.q (oq_eql rfl rfl) rfl rfl rfl ?_
    refine WL.q (oq_assign rfl) rfl rfl rfl ?_
    refine WL.nil (WE.then_normal (WC.sub (fr' := [(1, _), (5, _), (31, _)]) ?_ ⟨rfl, rfl, rfl, trivial⟩))
    refine WC.cond rfl (fun q11 => ?_) (fun q11 => ?_)
    ·
      try simp only [Z1, Z2, Z3, Z4, Z5, Z6, Z7, Z8, Z9, Z0] at q11
      refine WC.seq (WC.region ?_)
      refine WL.q (oq_fieldAddr fld33_3 rfl) rfl rfl rfl ?_
      refine WL.q (oq_load flat9 rfl (.head _) (List.mem_singleton.2 rfl) rfl) rfl rfl rfl ?_
      refine WL.toBytes Tryd.underlying9 Tryd.underlying108 Tryd.underlying5 rfl (by unfold maxLen; (first | omega | (simp only [List.length_cons, List.length_nil, List.length_append, List.length_drop, List.length_take]; omega))) rfl rfl fun v12_2 A12_2 hr12_2 hA12_2 => ?_
      refine WL.q (oq_makeI conc108 rfl) rfl rfl rfl ?_
      refine WL.q (oq_assign rfl) rfl rfl rfl ?_
      refine WL.nil (WE.then_normal (WC.sub (fr' := [(2, _)]) ?_ ⟨rfl, trivial⟩))
      refine WC.ret (WE.block_ret (WE.then_ret ?_))
      refine WE.f1 ?_
      refine WE.lose hb0_0 ?_
      refine WE.endA0 (.inl rfl) (res1 Tryd.results29 rfl) ?_ (hA12_2)
      -- end 4
      exact vokBytes q11 hr12_2 hl
    ·
      try simp only [Z1, Z2, Z3, Z4, Z5, Z6, Z7, Z8, Z9, Z0] at q11
      refine WC.seq (WC.region ?_)
      refine WL.q (oq_eql rfl rfl) rfl rfl rfl ?_
      refine WL.q (oq_assign rfl) rfl rfl rfl ?_
      refine WL.nil (WE.then_normal (WC.sub (fr' := [(1, _), (5, _), (37, _)]) ?_ ⟨rfl, rfl, rfl, trivial⟩))
      refine WC.cond rfl (fun q13 => ?_) (fun q13 => ?_)
      ·
        try simp only [Z1, Z2, Z3, Z4, Z5, Z6, Z7, Z8, Z9, Z0] at q13
        refine WC.seq (WC.region ?_)
        refine WL.q (oq_fieldAddr fld33_3 rfl) rfl rfl rfl ?_
        refine WL.q (oq_load flat9 rfl (.head _) (List.mem_singleton.2 rfl) rfl) rfl rfl rfl ?_
        refine WL.q (oq_makeI conc109 rfl) rfl rfl rfl ?_
        refine WL.q (oq_assign rfl) rfl rfl rfl ?_
        refine WL.nil (WE.then_normal (WC.sub (fr' := [(2, _)]) ?_ ⟨rfl, trivial⟩))
        refine WC.ret (WE.block_ret (WE.then_ret ?_))
        refine WE.lose hb0_0 ?_
        refine WE.add0 ?_
        refine WE.endA0 (.inl rfl) (res1 Tryd.results29 rfl) ?_ fresh0
        -- end 5
        exact vokString q13 hl
      ·
        try simp only [Z1, Z2, Z3, Z4, Z5, Z6, Z7, Z8, Z9, Z0] at q13
        refine WC.seq (WC.region ?_)
        refine WL.q (oq_eql rfl rfl) rfl rfl rfl ?_
        refine WL.q (oq_assign rfl) rfl rfl rfl ?_
        refine WL.nil (WE.then_normal (WC.sub (fr' := [(1, _), (5, _), (42, _)]) ?_ ⟨rfl, rfl, rfl, trivial⟩))
        refine WC.cond rfl (fun q15 => ?_) (fun q15 => ?_)
        ·
          try simp only [Z1, Z2, Z3, Z4, Z5, Z6, Z7, Z8, Z9, Z0] at q15
          refine WC.seq ?_
          have htm2 := htm q15
          refine WC.region ?_
          refine WL.q (oq_fieldAddr fld33_2 rfl) rfl rfl rfl ?_
          refine WL.q (oq_load flat2 rfl (.head _) (List.mem_singleton.2 rfl) rfl) rfl rfl rfl ?_
          refine WL.qc (oq_call (unixMilli h.int htm2.1 htm2.2) call34 rfl) rfl rfl rfl ?_
          refine WL.q (oq_makeI conc111 rfl) rfl rfl rfl ?_
          refine WL.q (oq_assign rfl) rfl rfl rfl ?_
          refine WL.nil (WE.then_normal (WC.sub (fr' := [(2, _)]) ?_ ⟨rfl, trivial⟩))
          refine WC.ret (WE.block_ret (WE.then_ret ?_))
          refine WE.lose hb0_0 ?_
          refine WE.add0 ?_
          refine WE.endA0 (.inl rfl) (res1 Tryd.results29 rfl) ?_ fresh0
          -- end 6
          exact vokTime q15 htm2.1 htm2.2
        ·
          try simp only [Z1, Z2, Z3, Z4, Z5, Z6, Z7, Z8, Z9, Z0] at q15
          refine WC.seq (WC.region ?_)
          refine WL.q (oq_eql rfl rfl) rfl rfl rfl ?_
          refine WL.q (oq_assign rfl) rfl rfl rfl ?_
          refine WL.nil (WE.then_normal (WC.sub (fr' := [(1, _), (48, _)]) ?_ ⟨rfl, rfl, trivial⟩))
          refine WC.cond rfl (fun q17 => ?_) (fun q17 => ?_)
          ·
            try simp only [Z1, Z2, Z3, Z4, Z5, Z6, Z7, Z8, Z9, Z0] at q17
            refine WC.seq ?_
            have hul := hun q17
            refine WC.region ?_
            refine WL.alloc ty115 rfl rfl fun ub hub => ?_
            refine WL.asB (List.replicate 16 0) rfl ?_
            refine WL.nil (WE.then_normal (WC.sub (fr' := [(1, _), (3, _)]) ?_ ⟨rfl, rfl, trivial⟩))
            refine WC.seq ?_
            refine WC.tailM (pl := []) (ql := [_, _, _]) (tl := [_]) [] [0, 1, 2] 3 [] (by kernel_rfl) (by kernel_rfl) (by kernel_rfl) (by kernel_rfl) (by kernel_rfl) (by kernel_rfl) (by decide) rfl rfl rfl (by decide) (by repeat (first | with_reducible exact QOk.body | with_reducible apply QOk.then | with_reducible apply QOk.block | exact QOk.body | apply QOk.then | apply QOk.block)) ?_
            refine WM.nil ?_
            refine WY.q (oq_sliceArr Tryd.underlying115 ty5 rfl rfl rfl (by (first | (simp only [List.length_replicate]; omega) | omega)) (by (first | (simp only [List.length_replicate]; omega) | omega))) rfl rfl rfl ?_
            refine WY.q (oq_fieldAddr fld33_3 rfl) rfl rfl rfl ?_
            refine WY.q (oq_load flat9 rfl (.tail _ (.head _)) (List.mem_singleton.2 rfl) rfl) rfl rfl rfl ?_
            refine WY.nil ?_
            refine WL.copyBS Tryd.underlying23 ty5 rfl rfl (by (first | (simp only [List.length_replicate]; omega) | omega)) rfl rfl ?_
            refine WL.nil (WE.then_normal (WC.sub (fr' := [(3, _)]) ?_ ⟨rfl, trivial⟩))
            refine WC.seq ?_
            have hcp : List.take (0 + 0) (List.replicate 16 0) ++ List.take (min h.text.length (16 - 0)) h.text ++ List.drop (0 + 0 + min h.text.length (16 - 0)) (List.replicate 16 0) = h.text := by
              rw [hul, List.take_of_length_le (l := h.text) (by omega)]; simp
            rw [hcp]
            refine WC.region ?_
            refine WL.q (oq_loadArr agg115 ty115 (hul) rfl (.head _)) rfl rfl rfl ?_
            refine WL.q (oq_makeI conc115 rfl) rfl rfl rfl ?_
            refine WL.q (oq_assign rfl) rfl rfl rfl ?_
            refine WL.nil (WE.then_normal (WC.sub (fr' := [(2, _)]) ?_ ⟨rfl, trivial⟩))
            refine WC.ret (WE.block_ret (WE.then_ret ?_))
            refine WE.lose hub ?_
            refine WE.lose hb0_0 ?_
            refine WE.add0 ?_
            refine WE.endA0 (.inl rfl) (res1 Tryd.results29 rfl) ?_ fresh0
            -- end 7
            exact vokUUID q17 hul
          ·
            try simp only [Z1, Z2, Z3, Z4, Z5, Z6, Z7, Z8, Z9, Z0] at q17
            refine WC.skip (WE.block_normal (WE.then_normal (WC.sub (fr' := [(1, _)]) ?_ ⟨rfl, trivial⟩)))
            refine WC.seq (WC.region ?_)
            refine WL.q (oq_fieldAddr fld33_2 rfl) rfl rfl rfl ?_
            refine WL.q (oq_load flat2 rfl (.head _) (List.mem_singleton.2 rfl) rfl) rfl rfl rfl ?_
            refine WL.q (oq_neq rfl rfl) rfl rfl rfl ?_
            refine WL.q (oq_makeI conc116 rfl) rfl rfl rfl ?_
            refine WL.q (oq_assign rfl) rfl rfl rfl ?_
            refine WL.nil (WE.then_normal (WC.sub (fr' := [(2, _)]) ?_ ⟨rfl, trivial⟩))
            refine WC.ret ?_
            refine WE.lose hb0_0 ?_
            refine WE.add0 ?_
            refine WE.endA0 (.inl rfl) (res1 Tryd.results29 rfl) ?_ fresh0
            -- end 8
            exact vokBool (by omega)

end EI
end Go.Proofs.YtodlhaghdplclaaDoor
