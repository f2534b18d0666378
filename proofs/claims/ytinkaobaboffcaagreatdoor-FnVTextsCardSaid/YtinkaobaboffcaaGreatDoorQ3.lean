/- A value's text, as the reference tells it. -/
import Derived.Test.YtinkaobaboffcaaGreatDoorQ2
import Derived.Test.YtinkaobaboffcaaGreatDoorQ0
import Derived.Lib.ItoaNum
import Derived.Lib.AppendIntMem
import Derived.Test.YtinkaobaboffcaaGreatDoorQ1
namespace Go.Proofs.YtinkaobaboffcaaGreatDoor
open Go Go.RowKit V EA EB EC EE EF EG EH EI TA TB TC TD TE TF TG TH
set_option linter.unusedSimpArgs false
set_option linter.unusedVariables false
set_option maxRecDepth 10000
namespace TI
theorem call11 : Callable Tryz.prog 11 := ⟨_, Tryz.func11, rfl, by kernel_rfl⟩
theorem call12 : Callable Tryz.prog 12 := ⟨_, Tryz.func12, rfl, by kernel_rfl⟩
theorem call13 : Callable Tryz.prog 13 := ⟨_, Tryz.func13, rfl, by kernel_rfl⟩
theorem call14 : Callable Tryz.prog 14 := ⟨_, Tryz.func14, rfl, by kernel_rfl⟩
theorem flat2 : Flat Tryz.prog 2 := ⟨_, Tryz.underlying2, by simp⟩
theorem flat3 : Flat Tryz.prog 3 := ⟨_, Tryz.underlying3, by simp⟩
theorem flat9 : Flat Tryz.prog 9 := ⟨_, Tryz.underlying9, by simp⟩
theorem ty2 : Ty Tryz.prog 2 (.int .i64 0) 1 8 := ty_of (by kernel_rfl)
theorem ty3 : Ty Tryz.prog 3 (.int .i64 0) 1 8 := ty_of (by kernel_rfl)
theorem ty9 : Ty Tryz.prog 9 (S []) 1 16 := ty_of (by kernel_rfl)
theorem fld23_0 : Fld Tryz.prog 23 0 0 3 := fld_of Tryz.underlying23 rfl rfl rfl ty3 (by decide)
theorem fld23_1 : Fld Tryz.prog 23 1 1 3 := fld_of Tryz.underlying23 rfl rfl rfl ty3 (by decide)
theorem fld23_2 : Fld Tryz.prog 23 2 2 2 := fld_of Tryz.underlying23 rfl rfl rfl ty2 (by decide)
theorem fld23_3 : Fld Tryz.prog 23 3 3 9 := fld_of Tryz.underlying23 rfl rfl rfl ty9 (by decide)
def Pw (G : Hp) : Prop := ∃ t f, (0, .cells (Lib.pow10Tab.map fun z => Value.int .u64 z).toArray t f) ∈ G
def Tb (G : Hp) : Prop := Tz G ∧ Pw G
theorem Tb.weaken {G C : Hp} (h : Tb G) (hs : ∀ x ∈ G, x ∈ C) : Tb C := by
 obtain ⟨⟨cs, e, fz, h1, h2⟩, t, f, h3⟩ := h
 exact ⟨⟨cs, e, fz, hs _ h1, h2⟩, t, f, hs _ h3⟩
theorem St.below {w0 w w' : World} {H : Hp} (h : St w0 H w) (b : Below w.heap.size w w') : St w0 H w' :=
 ⟨b.os.trans h.os, b.tape.trans h.tape, b.output.trans h.output, Nat.le_trans h.size b.size, fun k hk hno => by rw [b.block k (Nat.lt_of_lt_of_le hk h.size)]; exact h.old k hk hno, fun x o hx => by rw [b.block x (h.lt hx)]; exact h.now x o hx, h.nodup⟩
theorem gpow : Tryz.prog.globalNamed "internal/strconv.uint64pow10" = some 0 := by kernel_rfl
theorem fmt10 (n : Int) (h1 : -9223372036854775808 ≤ n) (h2 : n ≤ 9223372036854775807) (G : Hp) (hG : Tb G) : FnR Tryz.prog 13 [I n, I 10] G (S (Lib.itoa n)) := fun w hw => by
 obtain ⟨_, t, f, hm⟩ := hG
 have htab : Lib.TabIs Tryz.prog w "internal/strconv.uint64pow10" .u64 Lib.pow10Tab := by
  show w.var? _ _ = _
  simp only [World.var?, gpow, Option.bind_some, hw.now _ _ hm]
 refine (Tryz.strconv_FormatInt_10 n h1 h2 w htab).mono ?_
 rintro e w' ⟨rfl, k, os, rfl⟩
 exact ⟨rfl, St.below hw.st (Lib.below_grow _ _ (Nat.le_refl _) _ _)⟩
def textV (h : HV) : List UInt8 :=
 if h.kind = 0 then (if h.int = 0 then [102, 97, 108, 115, 101] else [116, 114, 117, 101])
 else if h.kind = 1 then [48, 120] ++ hexI h.int (h.width / 4)
 else if h.kind = 2 then b64 h.text
 else if h.kind = 4 then Lib.itoa h.int
 else if h.kind = 5 then sf h.text h.text.length
 else h.text
theorem uabs {n : Int} (h1 : -9223372036854775808 ≤ n) (h2 : n < 0) : IntKind.u64.wrap (-(IntKind.u64.wrap n)) = (n.natAbs : Int) := by
 simp [IntKind.wrap, IntKind.min, IntKind.max, IntKind.signed, IntKind.bits]; omega
theorem upos {n : Int} (h1 : 0 ≤ n) (h2 : n ≤ 9223372036854775807) : IntKind.u64.wrap n = (n.natAbs : Int) := by
 simp [IntKind.wrap, IntKind.min, IntKind.max, IntKind.signed, IntKind.bits]; omega
theorem hexI_len {n w : Int} (hw : w ≤ 16) : (hexI n w).length ≤ 31 := by
 have h1 := hex_len n.natAbs
 unfold hexI
 rw [List.length_append]
 by_cases h : n < 0
 ·rw [if_pos h, if_pos h]
  have := pad_len (w := w - 1) (s := hex n.natAbs) (by omega) (by omega)
  simp; omega
 ·rw [if_neg h, if_neg h]
  have := pad_len (w := w) (s := hex n.natAbs) (by omega) (by omega)
  simp; omega
theorem vTextOf (h : HV) (hf : fineV h) (h1 : -9223372036854775808 ≤ h.int) (h2 : h.int ≤ 9223372036854775807) (hl : h.text.length ≤ 400000) (G : Hp) (hG : Tb G) : FnR Tryz.prog 8 [.agg #[I h.kind, I h.width, I h.int, S h.text]] G (S (textV h)) := by
 obtain ⟨hk0, hk5, hwd, hun, htm⟩ := hf
 have hhl := hex_len h.int.natAbs
 refine FnR.enter (n := 58) Tryz.func8 rfl rfl fun w0 => ?_
 refine WC.sub (fr' := [(0, _)]) ?_ ⟨rfl, trivial⟩
 refine WC.seq (WC.region ?_)
 refine WL.box rfl rfl rfl fun xb hxb => ?_
 refine WL.q (oq_assign rfl) rfl rfl rfl ?_
 refine WL.nil (WE.then_normal (WC.sub (fr' := [(1, _)]) ?_ ⟨rfl, trivial⟩))
 refine WC.seq (WC.seq (WC.region ?_))
 refine WL.q (oq_fieldAddr fld23_0 rfl) rfl rfl rfl ?_
 refine WL.q (oq_load flat3 rfl (.head _) (List.mem_singleton.2 rfl) rfl) rfl rfl rfl ?_
 refine WL.nil (WE.then_normal (WC.sub (fr' := [(1, _), (8, _)]) ?_ ⟨rfl, rfl, trivial⟩))
 refine WC.block (WC.seq (WC.region ?_))
 refine WL.q (oq_eql rfl rfl) rfl rfl rfl ?_
 refine WL.q (oq_assign rfl) rfl rfl rfl ?_
 refine WL.nil (WE.then_normal (WC.sub (fr' := [(1, _), (8, _), (9, _)]) ?_ ⟨rfl, rfl, rfl, trivial⟩))
 refine WC.cond rfl (fun q2 => ?_) (fun q2 => ?_)
 ·
  try simp only [Z1, Z2, Z3, Z4, Z5, Z6, Z7, Z8, Z9, Z0] at q2
  refine WC.seq (WC.seq (WC.region ?_))
  refine WL.q (oq_fieldAddr fld23_2 rfl) rfl rfl rfl ?_
  refine WL.q (oq_load flat2 rfl (.head _) (List.mem_singleton.2 rfl) rfl) rfl rfl rfl ?_
  refine WL.q (oq_neq rfl rfl) rfl rfl rfl ?_
  refine WL.nil (WE.then_normal (WC.sub (fr' := [(13, _)]) ?_ ⟨rfl, trivial⟩))
  refine WC.cond rfl (fun q3 => ?_) (fun q3 => ?_)
  ·
   try simp only [Z1, Z2, Z3, Z4, Z5, Z6, Z7, Z8, Z9, Z0] at q3
   refine WC.seq (WC.region ?_)
   refine WL.q (oq_assign rfl) rfl rfl rfl ?_
   refine WL.nil (WE.then_normal (WC.sub (fr' := [(2, _)]) ?_ ⟨rfl, trivial⟩))
   refine WC.ret (WE.then_ret (WE.block_ret (WE.then_ret ?_)))
   refine WE.lose hxb ?_
   refine WE.endR (.inl rfl) (res1 Tryz.results8 rfl) ?_
   unfold textV; rw [if_pos q2, if_neg q3]
  ·
   try simp only [Z1, Z2, Z3, Z4, Z5, Z6, Z7, Z8, Z9, Z0] at q3
   refine WC.skip (WE.then_normal (WC.sub (fr' := []) ?_ trivial))
   refine WC.seq (WC.region ?_)
   refine WL.q (oq_assign rfl) rfl rfl rfl ?_
   refine WL.nil (WE.then_normal (WC.sub (fr' := [(2, _)]) ?_ ⟨rfl, trivial⟩))
   refine WC.ret (WE.block_ret (WE.then_ret ?_))
   refine WE.lose hxb ?_
   refine WE.endR (.inl rfl) (res1 Tryz.results8 rfl) ?_
   unfold textV; rw [if_pos q2, if_pos q3]
 ·
  try simp only [Z1, Z2, Z3, Z4, Z5, Z6, Z7, Z8, Z9, Z0] at q2
  refine WC.seq (WC.region ?_)
  refine WL.q (oq_eql rfl rfl) rfl rfl rfl ?_
  refine WL.q (oq_assign rfl) rfl rfl rfl ?_
  refine WL.nil (WE.then_normal (WC.sub (fr' := [(1, _), (8, _), (14, _)]) ?_ ⟨rfl, rfl, rfl, trivial⟩))
  refine WC.cond rfl (fun q6 => ?_) (fun q6 => ?_)
  ·
   try simp only [Z1, Z2, Z3, Z4, Z5, Z6, Z7, Z8, Z9, Z0] at q6
   refine WC.seq ?_
   have hw8 := hwd q6
   have hw9 : 8 ≤ h.width ∧ h.width ≤ 64 := by omega
   refine WC.quiet (by kernel_rfl) (by kernel_rfl) ?_
   refine WQ.q (oq_fieldAddr fld23_2 rfl) rfl rfl rfl ?_
   refine WQ.q (oq_load flat2 rfl (.head _) (List.mem_singleton.2 rfl) rfl) rfl rfl rfl ?_
   refine WQ.q (oq_convw Tryz.underlying2 Tryz.underlying40 rfl) rfl rfl rfl ?_
   refine WQ.q (oq_assign rfl) rfl rfl rfl ?_
   refine WQ.q (oq_assign rfl) rfl rfl rfl ?_
   refine WQ.nil (WE.then_normal (WC.sub (fr' := [(1, _), (3, _), (4, _)]) ?_ ⟨rfl, rfl, rfl, trivial⟩))
   refine WC.seq (WC.region ?_)
   refine WL.q (oq_fieldAddr fld23_1 rfl) rfl rfl rfl ?_
   refine WL.q (oq_load flat3 rfl (.head _) (List.mem_singleton.2 rfl) rfl) rfl rfl rfl ?_
   refine WL.q (oq_quo rfl rfl (by rw [i64_hi]; omega)) rfl rfl rfl ?_
   refine WL.q (oq_assign rfl) rfl rfl rfl ?_
   refine WL.nil (WE.then_normal (WC.sub (fr' := [(1, _), (3, _), (4, _), (5, _)]) ?_ ⟨rfl, rfl, rfl, rfl, trivial⟩))
   refine WC.cut (ι := (List UInt8) × Int) (fun i_ => (fun (sg : List UInt8) (w2 : Int) => [(3, S sg), (4, .int .u64 (h.int.natAbs : Int)), (5, I w2)]) i_.1 i_.2) (fun i_ => (fun (sg : List UInt8) (w2 : Int) => [[(xb, .cells #[I h.kind, I h.width, I h.int, S h.text] 23 (0, 0))], G]) i_.1 i_.2) (fun i_ => (fun (sg : List UInt8) (w2 : Int) => sg ++ pad w2 (hex h.int.natAbs) = hexI h.int (h.width / 4) ∧ w2 ≤ 16 ∧ sg.length ≤ 1) i_.1 i_.2) ?_ ?_
   ·
    refine WC.seq (WC.region ?_)
    refine WL.q (oq_fieldAddr fld23_2 rfl) rfl rfl rfl ?_
    refine WL.q (oq_load flat2 rfl (.head _) (List.mem_singleton.2 rfl) rfl) rfl rfl rfl ?_
    refine WL.q (oq_lss rfl rfl) rfl rfl rfl ?_
    refine WL.nil (WE.then_normal (WC.sub (fr' := [(3, _), (4, _), (5, _), (24, _)]) ?_ ⟨rfl, rfl, rfl, rfl, trivial⟩))
    refine WC.cond rfl (fun q9 => ?_) (fun q9 => ?_)
    ·
     try simp only [Z1, Z2, Z3, Z4, Z5, Z6, Z7, Z8, Z9, Z0] at q9
     refine WC.seq (WC.region ?_)
     refine WL.q (oq_move rfl) rfl rfl rfl ?_
     refine WL.q (oq_negw rfl) rfl rfl rfl ?_
     refine WL.q (oq_assign rfl) rfl rfl rfl ?_
     refine WL.q (oq_assign rfl) rfl rfl rfl ?_
     refine WL.nil (WE.then_normal (WC.sub (fr' := [(3, _), (4, _), (5, _)]) ?_ ⟨rfl, rfl, rfl, trivial⟩))
     refine WC.region ?_
     refine WL.q (oq_move rfl) rfl rfl rfl ?_
     refine WL.q (oq_sub rfl rfl (by rw [i64_lo, i64_hi]; (first | omega | (simp only [List.length_cons, List.length_nil, List.length_append, List.length_drop, List.length_take]; omega)))) rfl rfl rfl ?_
     refine WL.q (oq_assign rfl) rfl rfl rfl ?_
     refine WL.nil ?_
     refine WE.meet ([45], h.width / 4 - 1) ?_ ⟨rfl, (gtv rfl (congrArg (Value.int .u64) (by first | exact uabs h1 (by omega) | exact upos (by omega) h2))), rfl, trivial⟩ (List.Perm.refl _)
     try dsimp only
     exact ⟨by unfold hexI; rw [if_pos (by omega), if_pos (by omega)], by omega, by decide⟩
    ·
     try simp only [Z1, Z2, Z3, Z4, Z5, Z6, Z7, Z8, Z9, Z0] at q9
     refine WC.skip ?_
     refine WE.meet ([], h.width / 4) ?_ ⟨rfl, (gtv rfl (congrArg (Value.int .u64) (by first | exact uabs h1 (by omega) | exact upos (by omega) h2))), rfl, trivial⟩ (List.Perm.refl _)
     try dsimp only
     exact ⟨by unfold hexI; rw [if_neg (by omega), if_neg (by omega)], by omega, by decide⟩
   ·rintro ⟨sg, w2⟩ hp
    try dsimp only at hp
    obtain ⟨hs1, hs3, hs4⟩ := hp
    show WC _ _ _ _ _ _ ([(3, S sg), (4, .int .u64 (h.int.natAbs : Int)), (5, I w2)]) ([[(xb, .cells #[I h.kind, I h.width, I h.int, S h.text] 23 (0, 0))], G])
    refine WC.seq (WC.region ?_)
    refine WL.q (oq_move rfl) rfl rfl rfl ?_
    refine WL.qc (oq_callRm (fmtU h.int.natAbs (by omega) G hG.1) (.tail _ (.head _)) call11 rfl) rfl rfl rfl ?_
    refine WL.q (oq_assign rfl) rfl rfl rfl ?_
    refine WL.nil (WE.then_normal (WC.sub (fr' := [(3, _), (5, _), (6, _)]) ?_ ⟨rfl, rfl, rfl, trivial⟩))
    refine WC.seq (WC.block ?_)
    refine WC.loop (ι := (List UInt8)) (fun (t : List UInt8) => [(3, S sg), (5, I w2), (6, S t)]) (fun (t : List UInt8) => [[(xb, .cells #[I h.kind, I h.width, I h.int, S h.text] 23 (0, 0))], G]) (fun (t : List UInt8) => pad w2 t = pad w2 (hex h.int.natAbs) ∧ t.length ≤ 20) (fun (t : List UInt8) => 20 - t.length) (_) ?_ ⟨rfl, rfl, rfl, trivial⟩ (List.Perm.refl _) ?_
    ·try dsimp only
     exact ⟨rfl, by omega⟩
    ·rintro t hp
     try dsimp only at hp
     obtain ⟨ht1, ht2⟩ := hp
     show WC _ _ _ _ _ _ ([(3, S sg), (5, I w2), (6, S t)]) ([[(xb, .cells #[I h.kind, I h.width, I h.int, S h.text] 23 (0, 0))], G])
     refine WC.seq (WC.seq (WC.region ?_))
     refine WL.q (oq_move rfl) rfl rfl rfl ?_
     refine WL.q (oq_len_s Tryz.underlying9 rfl) rfl rfl rfl ?_
     refine WL.q (oq_move rfl) rfl rfl rfl ?_
     refine WL.q (oq_lss rfl rfl) rfl rfl rfl ?_
     refine WL.nil (WE.then_normal (WC.sub (fr' := [(3, _), (5, _), (6, _), (34, _)]) ?_ ⟨rfl, rfl, rfl, rfl, trivial⟩))
     refine WC.cond rfl (fun q13 => ?_) (fun q13 => ?_)
     ·
      try simp only [Z1, Z2, Z3, Z4, Z5, Z6, Z7, Z8, Z9, Z0] at q13
      refine WC.skip (WE.then_normal (WC.sub (fr' := [(3, _), (5, _), (6, _)]) ?_ ⟨rfl, rfl, rfl, trivial⟩))
      refine WC.block (WC.region ?_)
      refine WL.q (oq_move rfl) rfl rfl rfl ?_
      refine WL.q (oq_concat rfl rfl (by (first | omega | (simp only [List.length_cons, List.length_nil, List.length_append, List.length_drop, List.length_take]; omega)))) rfl rfl rfl ?_
      refine WL.q (oq_assign rfl) rfl rfl rfl ?_
      refine WL.nil (WE.block_normal ?_)
      refine WE.again (48 :: t) ?_ ?_ ⟨rfl, rfl, rfl, trivial⟩ (List.Perm.refl _)
      ·try dsimp only
       refine ⟨by rw [← ht1]; exact (pad_step (by omega)).symm, by rw [List.length_cons]; omega⟩
      ·(try dsimp only); rw [List.length_cons]; omega
     ·
      try simp only [Z1, Z2, Z3, Z4, Z5, Z6, Z7, Z8, Z9, Z0] at q13
      refine WC.exit (WE.then_exit (WE.then_exit (WE.block_same (WE.then_normal (WC.sub (fr' := [(3, _), (6, _)]) ?_ ⟨rfl, rfl, trivial⟩)))))
      refine WC.seq (WC.region ?_)
      refine WL.q (oq_move rfl) rfl rfl rfl ?_
      refine WL.q (oq_concat rfl rfl (by (first | omega | (simp only [List.length_cons, List.length_nil, List.length_append, List.length_drop, List.length_take]; omega)))) rfl rfl rfl ?_
      refine WL.q (oq_move rfl) rfl rfl rfl ?_
      refine WL.q (oq_concat rfl rfl (by (first | omega | (simp only [List.length_cons, List.length_nil, List.length_append, List.length_drop, List.length_take]; omega)))) rfl rfl rfl ?_
      refine WL.q (oq_assign rfl) rfl rfl rfl ?_
      refine WL.nil (WE.then_normal (WC.sub (fr' := [(2, _)]) ?_ ⟨rfl, trivial⟩))
      refine WC.ret (WE.block_ret (WE.then_ret ?_))
      refine WE.lose hxb ?_
      refine WE.endR (.inl rfl) (res1 Tryz.results8 rfl) ?_
      rw [← ht1, pad_done (by omega)] at hs1
      unfold textV
      rw [if_neg q2, if_pos q6, ← hs1, List.append_assoc]
  ·
   try simp only [Z1, Z2, Z3, Z4, Z5, Z6, Z7, Z8, Z9, Z0] at q6
   refine WC.seq (WC.region ?_)
   refine WL.q (oq_eql rfl rfl) rfl rfl rfl ?_
   refine WL.q (oq_assign rfl) rfl rfl rfl ?_
   refine WL.nil (WE.then_normal (WC.sub (fr' := [(1, _), (8, _), (41, _)]) ?_ ⟨rfl, rfl, rfl, trivial⟩))
   refine WC.cond rfl (fun q16 => ?_) (fun q16 => ?_)
   ·
    try simp only [Z1, Z2, Z3, Z4, Z5, Z6, Z7, Z8, Z9, Z0] at q16
    refine WC.seq (WC.region ?_)
    refine WL.q (oq_fieldAddr fld23_3 rfl) rfl rfl rfl ?_
    refine WL.q (oq_load flat9 rfl (.head _) (List.mem_singleton.2 rfl) rfl) rfl rfl rfl ?_
    refine WL.qc (oq_call (xBase64 h.text hl) call12 rfl) rfl rfl rfl ?_
    refine WL.q (oq_assign rfl) rfl rfl rfl ?_
    refine WL.nil (WE.then_normal (WC.sub (fr' := [(2, _)]) ?_ ⟨rfl, trivial⟩))
    refine WC.ret (WE.block_ret (WE.then_ret ?_))
    refine WE.lose hxb ?_
    refine WE.endR (.inl rfl) (res1 Tryz.results8 rfl) ?_
    unfold textV; rw [if_neg q2, if_neg q6, if_pos q16]
   ·
    try simp only [Z1, Z2, Z3, Z4, Z5, Z6, Z7, Z8, Z9, Z0] at q16
    refine WC.seq (WC.region ?_)
    refine WL.q (oq_eql rfl rfl) rfl rfl rfl ?_
    refine WL.q (oq_assign rfl) rfl rfl rfl ?_
    refine WL.nil (WE.then_normal (WC.sub (fr' := [(1, _), (8, _), (46, _)]) ?_ ⟨rfl, rfl, rfl, trivial⟩))
    refine WC.cond rfl (fun q18 => ?_) (fun q18 => ?_)
    ·
     try simp only [Z1, Z2, Z3, Z4, Z5, Z6, Z7, Z8, Z9, Z0] at q18
     refine WC.seq (WC.region ?_)
     refine WL.q (oq_fieldAddr fld23_2 rfl) rfl rfl rfl ?_
     refine WL.q (oq_load flat2 rfl (.head _) (List.mem_singleton.2 rfl) rfl) rfl rfl rfl ?_
     refine WL.qc (oq_callRm (fmt10 h.int h1 h2 G hG) (.tail _ (.head _)) call13 rfl) rfl rfl rfl ?_
     refine WL.q (oq_assign rfl) rfl rfl rfl ?_
     refine WL.nil (WE.then_normal (WC.sub (fr' := [(2, _)]) ?_ ⟨rfl, trivial⟩))
     refine WC.ret (WE.block_ret (WE.then_ret ?_))
     refine WE.lose hxb ?_
     refine WE.endR (.inl rfl) (res1 Tryz.results8 rfl) ?_
     unfold textV; rw [if_neg q2, if_neg q6, if_neg q16, if_pos q18]
    ·
     try simp only [Z1, Z2, Z3, Z4, Z5, Z6, Z7, Z8, Z9, Z0] at q18
     refine WC.seq (WC.region ?_)
     refine WL.q (oq_eql rfl rfl) rfl rfl rfl ?_
     refine WL.q (oq_assign rfl) rfl rfl rfl ?_
     refine WL.nil (WE.then_normal (WC.sub (fr' := [(1, _), (51, _)]) ?_ ⟨rfl, rfl, trivial⟩))
     refine WC.cond rfl (fun q20 => ?_) (fun q20 => ?_)
     ·
      try simp only [Z1, Z2, Z3, Z4, Z5, Z6, Z7, Z8, Z9, Z0] at q20
      refine WC.seq (WC.region ?_)
      refine WL.q (oq_fieldAddr fld23_3 rfl) rfl rfl rfl ?_
      refine WL.q (oq_load flat9 rfl (.head _) (List.mem_singleton.2 rfl) rfl) rfl rfl rfl ?_
      refine WL.qc (oq_call (sForm h.text hl) call14 rfl) rfl rfl rfl ?_
      refine WL.q (oq_assign rfl) rfl rfl rfl ?_
      refine WL.nil (WE.then_normal (WC.sub (fr' := [(2, _)]) ?_ ⟨rfl, trivial⟩))
      refine WC.ret (WE.block_ret (WE.then_ret ?_))
      refine WE.lose hxb ?_
      refine WE.endR (.inl rfl) (res1 Tryz.results8 rfl) ?_
      unfold textV; rw [if_neg q2, if_neg q6, if_neg q16, if_neg q18, if_pos q20]
     ·
      try simp only [Z1, Z2, Z3, Z4, Z5, Z6, Z7, Z8, Z9, Z0] at q20
      refine WC.skip (WE.block_normal (WE.then_normal (WC.sub (fr' := [(1, _)]) ?_ ⟨rfl, trivial⟩)))
      refine WC.seq (WC.region ?_)
      refine WL.q (oq_fieldAddr fld23_3 rfl) rfl rfl rfl ?_
      refine WL.q (oq_load flat9 rfl (.head _) (List.mem_singleton.2 rfl) rfl) rfl rfl rfl ?_
      refine WL.q (oq_assign rfl) rfl rfl rfl ?_
      refine WL.nil (WE.then_normal (WC.sub (fr' := [(2, _)]) ?_ ⟨rfl, trivial⟩))
      refine WC.ret ?_
      refine WE.lose hxb ?_
      refine WE.endR (.inl rfl) (res1 Tryz.results8 rfl) ?_
      unfold textV; rw [if_neg q2, if_neg q6, if_neg q16, if_neg q18, if_neg q20]
      rfl
end TI
end Go.Proofs.YtinkaobaboffcaaGreatDoor
/- Lists of headers. -/
namespace Go.Proofs.YtinkaobaboffcaaGreatDoor
open Go Go.RowKit V EA EB EC ED EE EF EG EH EI
set_option linter.unusedSimpArgs false
set_option linter.unusedVariables false
set_option maxRecDepth 10000
namespace EJ
theorem call10 : Callable Tryz.prog 10 := ⟨_, Tryz.func10, rfl, by kernel_rfl⟩
theorem call36 : Callable Tryz.prog 36 := ⟨_, Tryz.func36, rfl, by kernel_rfl⟩
theorem flat5 : Flat Tryz.prog 5 := ⟨_, Tryz.underlying5, by simp⟩
theorem flat9 : Flat Tryz.prog 9 := ⟨_, Tryz.underlying9, by simp⟩
theorem flat37 : Flat Tryz.prog 37 := ⟨_, Tryz.underlying37, by simp⟩
theorem ty5 : Ty Tryz.prog 5 (.int .u8 0) 1 1 := ty_of (by kernel_rfl)
theorem ty9 : Ty Tryz.prog 9 (S []) 1 16 := ty_of (by kernel_rfl)
theorem ty23 : Ty Tryz.prog 23 (.agg #[(.int .i64 0), (.int .i64 0), (.int .i64 0), (S [])]) 4 40 := ty_of (by kernel_rfl)
theorem ty27 : Ty Tryz.prog 27 (.agg #[(S []), (.int .i64 0), (.int .i64 0), (.int .i64 0), (S [])]) 5 56 := ty_of (by kernel_rfl)
theorem ty37 : Ty Tryz.prog 37 .nilIface 1 16 := ty_of (by kernel_rfl)
theorem ty95 : Ty Tryz.prog 95 (.agg #[(S []), .nilIface]) 2 32 := ty_of (by kernel_rfl)
theorem ty104 : Ty Tryz.prog 104 (.agg #[(S []), (.int .i64 0), (.int .i64 0), .nilIface]) 4 48 := ty_of (by kernel_rfl)
theorem ty105 : Ty Tryz.prog 105 (.agg #[(.int .u8 0), (.int .u8 0), (.int .u8 0), (.int .u8 0), (.int .u8 0), (.int .u8 0), (.int .u8 0), (.int .u8 0), (.int .u8 0), (.int .u8 0), (.int .u8 0), (.int .u8 0), (.int .u8 0), (.int .u8 0), (.int .u8 0), (.int .u8 0), (.int .u8 0), (.int .u8 0), (.int .u8 0), (.int .u8 0), (.int .u8 0), (.int .u8 0), (.int .u8 0), (.int .u8 0), (.int .u8 0), (.int .u8 0), (.int .u8 0), (.int .u8 0), (.int .u8 0), (.int .u8 0), (.int .u8 0), (.int .u8 0), (.int .u8 0), (.int .u8 0), (.int .u8 0), (.int .u8 0), (.int .u8 0), (.int .u8 0), (.int .u8 0), (.int .u8 0), (.int .u8 0), (.int .u8 0), (.int .u8 0), (.int .u8 0), (.int .u8 0), (.int .u8 0), (.int .u8 0), (.int .u8 0), (.int .u8 0), (.int .u8 0), (.int .u8 0), (.int .u8 0), (.int .u8 0), (.int .u8 0), (.int .u8 0), (.int .u8 0), (.int .u8 0), (.int .u8 0), (.int .u8 0), (.int .u8 0), (.int .u8 0), (.int .u8 0), (.int .u8 0), (.int .u8 0), (.int .u8 0), (.int .u8 0), (.int .u8 0), (.int .u8 0), (.int .u8 0), (.int .u8 0), (.int .u8 0), (.int .u8 0), (.int .u8 0), (.int .u8 0), (.int .u8 0), (.int .u8 0), (.int .u8 0), (.int .u8 0), (.int .u8 0), (.int .u8 0), (.int .u8 0), (.int .u8 0), (.int .u8 0), (.int .u8 0), (.int .u8 0), (.int .u8 0), (.int .u8 0), (.int .u8 0), (.int .u8 0), (.int .u8 0), (.int .u8 0), (.int .u8 0), (.int .u8 0), (.int .u8 0), (.int .u8 0), (.int .u8 0), (.int .u8 0), (.int .u8 0), (.int .u8 0), (.int .u8 0), (.int .u8 0), (.int .u8 0), (.int .u8 0), (.int .u8 0), (.int .u8 0), (.int .u8 0), (.int .u8 0), (.int .u8 0), (.int .u8 0), (.int .u8 0), (.int .u8 0), (.int .u8 0), (.int .u8 0), (.int .u8 0), (.int .u8 0), (.int .u8 0), (.int .u8 0), (.int .u8 0), (.int .u8 0), (.int .u8 0), (.int .u8 0), (.int .u8 0), (.int .u8 0), (.int .u8 0), (.int .u8 0), (.int .u8 0), (.int .u8 0), (.int .u8 0), (.int .u8 0), (.int .u8 0), (.int .u8 0), (.int .u8 0), (.int .u8 0), (.int .u8 0), (.int .u8 0), (.int .u8 0), (.int .u8 0), (.int .u8 0), (.int .u8 0), (.int .u8 0), (.int .u8 0), (.int .u8 0), (.int .u8 0), (.int .u8 0), (.int .u8 0), (.int .u8 0), (.int .u8 0), (.int .u8 0), (.int .u8 0), (.int .u8 0), (.int .u8 0), (.int .u8 0), (.int .u8 0), (.int .u8 0), (.int .u8 0), (.int .u8 0), (.int .u8 0), (.int .u8 0), (.int .u8 0), (.int .u8 0), (.int .u8 0), (.int .u8 0), (.int .u8 0), (.int .u8 0), (.int .u8 0), (.int .u8 0), (.int .u8 0), (.int .u8 0), (.int .u8 0), (.int .u8 0), (.int .u8 0), (.int .u8 0), (.int .u8 0), (.int .u8 0), (.int .u8 0), (.int .u8 0), (.int .u8 0), (.int .u8 0), (.int .u8 0), (.int .u8 0), (.int .u8 0), (.int .u8 0), (.int .u8 0), (.int .u8 0), (.int .u8 0), (.int .u8 0), (.int .u8 0), (.int .u8 0), (.int .u8 0), (.int .u8 0), (.int .u8 0), (.int .u8 0), (.int .u8 0), (.int .u8 0), (.int .u8 0), (.int .u8 0), (.int .u8 0), (.int .u8 0), (.int .u8 0), (.int .u8 0), (.int .u8 0), (.int .u8 0), (.int .u8 0), (.int .u8 0), (.int .u8 0), (.int .u8 0), (.int .u8 0), (.int .u8 0), (.int .u8 0), (.int .u8 0), (.int .u8 0), (.int .u8 0), (.int .u8 0), (.int .u8 0), (.int .u8 0), (.int .u8 0), (.int .u8 0), (.int .u8 0), (.int .u8 0), (.int .u8 0), (.int .u8 0), (.int .u8 0), (.int .u8 0), (.int .u8 0), (.int .u8 0), (.int .u8 0), (.int .u8 0), (.int .u8 0), (.int .u8 0), (.int .u8 0), (.int .u8 0), (.int .u8 0), (.int .u8 0), (.int .u8 0), (.int .u8 0), (.int .u8 0), (.int .u8 0), (.int .u8 0), (.int .u8 0), (.int .u8 0), (.int .u8 0), (.int .u8 0), (.int .u8 0), (.int .u8 0), (.int .u8 0), (.int .u8 0), (.int .u8 0), (.int .u8 0), (.int .u8 0), (.int .u8 0), (.int .u8 0), (.int .u8 0), (.int .u8 0), (.int .u8 0), (.int .u8 0)]) 255 255 := ty_of (by kernel_rfl)
theorem ty107 : Ty Tryz.prog 107 (.agg #[(.int .u8 0), (.int .u8 0), (.int .u8 0), (.int .u8 0), (.int .u8 0), (.int .u8 0), (.int .u8 0), (.int .u8 0), (.int .u8 0), (.int .u8 0), (.int .u8 0), (.int .u8 0), (.int .u8 0), (.int .u8 0), (.int .u8 0), (.int .u8 0), (.int .u8 0), (.int .u8 0), (.int .u8 0), (.int .u8 0), (.int .u8 0), (.int .u8 0), (.int .u8 0), (.int .u8 0), (.int .u8 0), (.int .u8 0), (.int .u8 0), (.int .u8 0), (.int .u8 0), (.int .u8 0), (.int .u8 0), (.int .u8 0), (.int .u8 0), (.int .u8 0), (.int .u8 0), (.int .u8 0), (.int .u8 0), (.int .u8 0), (.int .u8 0), (.int .u8 0), (.int .u8 0), (.int .u8 0), (.int .u8 0), (.int .u8 0), (.int .u8 0), (.int .u8 0), (.int .u8 0), (.int .u8 0), (.int .u8 0), (.int .u8 0), (.int .u8 0), (.int .u8 0), (.int .u8 0), (.int .u8 0), (.int .u8 0), (.int .u8 0), (.int .u8 0), (.int .u8 0), (.int .u8 0), (.int .u8 0), (.int .u8 0), (.int .u8 0), (.int .u8 0), (.int .u8 0), (.int .u8 0), (.int .u8 0), (.int .u8 0), (.int .u8 0), (.int .u8 0), (.int .u8 0), (.int .u8 0), (.int .u8 0), (.int .u8 0), (.int .u8 0), (.int .u8 0), (.int .u8 0), (.int .u8 0), (.int .u8 0), (.int .u8 0), (.int .u8 0), (.int .u8 0), (.int .u8 0), (.int .u8 0), (.int .u8 0), (.int .u8 0), (.int .u8 0), (.int .u8 0), (.int .u8 0), (.int .u8 0), (.int .u8 0), (.int .u8 0), (.int .u8 0), (.int .u8 0), (.int .u8 0), (.int .u8 0), (.int .u8 0), (.int .u8 0), (.int .u8 0), (.int .u8 0), (.int .u8 0), (.int .u8 0), (.int .u8 0), (.int .u8 0), (.int .u8 0), (.int .u8 0), (.int .u8 0), (.int .u8 0), (.int .u8 0), (.int .u8 0), (.int .u8 0), (.int .u8 0), (.int .u8 0), (.int .u8 0), (.int .u8 0), (.int .u8 0), (.int .u8 0), (.int .u8 0), (.int .u8 0), (.int .u8 0), (.int .u8 0), (.int .u8 0), (.int .u8 0), (.int .u8 0), (.int .u8 0), (.int .u8 0), (.int .u8 0), (.int .u8 0), (.int .u8 0), (.int .u8 0), (.int .u8 0), (.int .u8 0), (.int .u8 0), (.int .u8 0), (.int .u8 0), (.int .u8 0), (.int .u8 0), (.int .u8 0), (.int .u8 0), (.int .u8 0), (.int .u8 0), (.int .u8 0), (.int .u8 0), (.int .u8 0), (.int .u8 0), (.int .u8 0), (.int .u8 0), (.int .u8 0), (.int .u8 0), (.int .u8 0), (.int .u8 0), (.int .u8 0), (.int .u8 0), (.int .u8 0), (.int .u8 0), (.int .u8 0), (.int .u8 0), (.int .u8 0), (.int .u8 0), (.int .u8 0), (.int .u8 0), (.int .u8 0), (.int .u8 0), (.int .u8 0), (.int .u8 0), (.int .u8 0), (.int .u8 0), (.int .u8 0), (.int .u8 0), (.int .u8 0), (.int .u8 0), (.int .u8 0), (.int .u8 0), (.int .u8 0), (.int .u8 0), (.int .u8 0), (.int .u8 0), (.int .u8 0), (.int .u8 0), (.int .u8 0), (.int .u8 0), (.int .u8 0), (.int .u8 0), (.int .u8 0), (.int .u8 0), (.int .u8 0), (.int .u8 0), (.int .u8 0), (.int .u8 0), (.int .u8 0), (.int .u8 0), (.int .u8 0), (.int .u8 0), (.int .u8 0), (.int .u8 0), (.int .u8 0), (.int .u8 0), (.int .u8 0), (.int .u8 0), (.int .u8 0), (.int .u8 0), (.int .u8 0), (.int .u8 0), (.int .u8 0), (.int .u8 0), (.int .u8 0), (.int .u8 0), (.int .u8 0), (.int .u8 0), (.int .u8 0), (.int .u8 0), (.int .u8 0), (.int .u8 0), (.int .u8 0), (.int .u8 0), (.int .u8 0), (.int .u8 0), (.int .u8 0), (.int .u8 0), (.int .u8 0), (.int .u8 0), (.int .u8 0), (.int .u8 0), (.int .u8 0), (.int .u8 0), (.int .u8 0), (.int .u8 0), (.int .u8 0), (.int .u8 0), (.int .u8 0), (.int .u8 0), (.int .u8 0), (.int .u8 0), (.int .u8 0), (.int .u8 0), (.int .u8 0), (.int .u8 0), (.int .u8 0), (.int .u8 0), (.int .u8 0), (.int .u8 0), (.int .u8 0), (.int .u8 0), (.int .u8 0), (.int .u8 0), (.int .u8 0), (.int .u8 0), (.int .u8 0), (.int .u8 0), (.int .u8 0), (.int .u8 0), (.int .u8 0), (.int .u8 0), (.int .u8 0), (.int .u8 0), (.int .u8 0), (.int .u8 0)]) 256 256 := ty_of (by kernel_rfl)
theorem conc9 : Conc Tryz.prog 9 := ⟨_, Tryz.underlying9, by simp⟩
theorem conc104 : Conc Tryz.prog 104 := ⟨_, Tryz.underlying104, by simp⟩
theorem agg23 : Agg Tryz.prog 23 := agg_of Tryz.underlying23
theorem agg27 : Agg Tryz.prog 27 := agg_of Tryz.underlying27
theorem agg95 : Agg Tryz.prog 95 := agg_of Tryz.underlying95
theorem agg107 : Agg Tryz.prog 107 := agg_of Tryz.underlying107
theorem str95 : Str Tryz.prog 95 #[(0, 1), (1, 1)] := ⟨_, Tryz.underlying95, fun w => by kernel_rfl⟩
theorem str104 : Str Tryz.prog 104 #[(0, 1), (1, 1), (2, 1), (3, 1)] := ⟨_, Tryz.underlying104, fun w => by kernel_rfl⟩
theorem str107 : Str Tryz.prog 107 #[(0, 1), (1, 255)] := ⟨_, Tryz.underlying107, fun w => by kernel_rfl⟩
theorem fld27_0 : Fld Tryz.prog 27 0 0 9 := fld_of Tryz.underlying27 rfl rfl rfl ty9 (by decide)
theorem fld27_1 : Fld Tryz.prog 27 1 1 23 := fld_of Tryz.underlying27 rfl rfl rfl ty23 (by decide)
theorem fld95_0 : Fld Tryz.prog 95 0 0 9 := fld_of Tryz.underlying95 rfl rfl rfl ty9 (by decide)
theorem fld95_1 : Fld Tryz.prog 95 1 1 37 := fld_of Tryz.underlying95 rfl rfl rfl ty37 (by decide)
theorem fld107_0 : Fld Tryz.prog 107 0 0 5 := fld_of Tryz.underlying107 rfl rfl rfl ty5 (by decide)
theorem fld107_1 : Fld Tryz.prog 107 1 1 105 := fld_of Tryz.underlying107 rfl rfl rfl ty105 (by decide)
abbrev HV0 : HV := ⟨[], 0, 0, 0, []⟩
structure PV where
 name : List UInt8
 k : TypeId
 r : Value
def PV.row (p : PV) : List Value := [S p.name, .iface p.k p.r]
abbrev PV0 : PV := ⟨[], 0, .nilIface⟩
def Pair (l : List HV) (ps : List PV) (Z : Hp) : Prop := ps.length = l.length ∧ ∀ i, i < l.length → (ps.getD i PV0).name = (l.getD i HV0).name ∧ VOk (l.getD i HV0) (.iface (ps.getD i PV0).k (ps.getD i PV0).r) Z
theorem Pair.nil : Pair [] [] [] := ⟨rfl, fun i h => nomatch h⟩
theorem Pair.snoc {l : List HV} {i : Nat} {ps : List PV} {Z N : Hp} {k : TypeId} {r : Value} (h : Pair (l.take i) ps Z) (hi : i < l.length) (hv : VOk (l.getD i HV0) (.iface k r) N) : Pair (l.take (i + 1)) (ps ++ [⟨(l.getD i HV0).name, k, r⟩]) (N ++ Z) := by
 have hl : ps.length = i := by rw [h.1, List.length_take]; omega
 refine ⟨by simp [h.1]; omega, fun j hj => ?_⟩
 rw [List.length_take] at hj
 have ht : ∀ m, j < m → (l.take m).getD j HV0 = l.getD j HV0 := fun m hm => by simp [List.getD_eq_getElem?_getD, List.getElem?_take, hm]
 rcases Nat.lt_or_ge j i with hji | hji
 ·have h2 := h.2 j (by rw [List.length_take]; omega)
  rw [ht _ hji] at h2
  rw [ht _ (by omega)]
  have he : (ps ++ [(⟨(l.getD i HV0).name, k, r⟩ : PV)]).getD j PV0 = ps.getD j PV0 := by
   simp [List.getD_eq_getElem?_getD, List.getElem?_append, hl, hji]
  rw [he]
  exact ⟨h2.1, h2.2.wide (List.perm_append_comm)⟩
 ·obtain rfl : j = i := by omega
  rw [ht _ (by omega)]
  have he : (ps ++ [(⟨(l.getD j HV0).name, k, r⟩ : PV)]).getD j PV0 = ⟨(l.getD j HV0).name, k, r⟩ := by
   simp [List.getD_eq_getElem?_getD, List.getElem?_append, hl]
  rw [he]
  exact ⟨rfl, hv.wide (List.Perm.refl _)⟩
theorem recsPV_snoc (ps : List PV) (p : PV) : recsV PV.row ps ++ [S p.name, .iface p.k p.r] = recsV PV.row (ps ++ [p]) := by
 unfold recsV; rw [List.flatMap_append]; simp [PV.row]
theorem onePV (n : List UInt8) (k : TypeId) (r : Value) : ∀ u ∈ [S n, Value.iface k r], u.oneCell' = true := fun u hu => by
 rcases List.mem_cons.1 hu with rfl | hu
 ·rfl
 ·rw [List.mem_singleton] at hu; subst hu; rfl
def okH (l : List HV) : Prop := ∀ i, i < l.length → fineV (l.getD i HV0) ∧ (l.getD i HV0).text.length ≤ 400000
def HsOk (l : List HV) (v : Value) (N : Hp) : Prop := ∃ ps M Z, N = M ++ Z ∧ RdS 2 v M ps.length (recsV PV.row ps) ∧ Pair l ps Z
theorem headersFor (v : Value) (L : Hp) (l : List HV) (hr : RdS 5 v L l.length (recsV HV.row l)) (hok : okH l) (hn : l.length ≤ 1000) : FnA Tryz.prog 17 [v] L (HsOk l) := by
 refine FnA.enter (n := 23) Tryz.func17 rfl rfl fun w0 => ?_
 refine WC.sub (fr' := [(0, _)]) ?_ ⟨rfl, trivial⟩
 refine WC.seq (WC.region ?_)
 refine WL.q (oq_assign rfl) rfl rfl rfl ?_
 refine WL.nil (WE.then_normal (WC.sub (fr' := [(0, _)]) ?_ ⟨rfl, trivial⟩))
 refine WC.seq ?_
 refine WC.add0 ?_
 refine WC.add0 ?_
 refine WC.region ?_
 refine WL.q (oq_assign rfl) rfl rfl rfl ?_
 refine WL.nil (WE.then_normal (WC.sub (fr' := [(0, _), (3, _)]) ?_ ⟨rfl, rfl, trivial⟩))
 refine WC.seq (WC.seq (WC.region ?_))
 refine WL.q (oq_move rfl) rfl rfl rfl ?_
 refine WL.q (oq_len_rd hr Tryz.underlying28 rfl) rfl rfl rfl ?_
 refine WL.q (oq_move rfl) rfl rfl rfl ?_
 refine WL.nil (WE.then_normal (WC.sub (fr' := [(3, _), (6, _), (7, _), (8, _)]) ?_ ⟨rfl, rfl, rfl, rfl, trivial⟩))
 refine WC.block ?_
 refine WC.f2 ?_
 refine WC.f1 ?_
 refine WC.f2 ?_
 refine WC.loop (ι := Nat × Value × Hp × Hp × (List PV)) (fun i_ => (fun (i : Nat) (u : Value) (B : Hp) (Z : Hp) (ps : List PV) => [(3, u), (6, v), (7, I (l.length : Int)), (8, I (i : Int))]) i_.1 i_.2.1 i_.2.2.1 i_.2.2.2.1 i_.2.2.2.2) (fun i_ => (fun (i : Nat) (u : Value) (B : Hp) (Z : Hp) (ps : List PV) => [B, Z, L]) i_.1 i_.2.1 i_.2.2.1 i_.2.2.2.1 i_.2.2.2.2) (fun i_ => (fun (i : Nat) (u : Value) (B : Hp) (Z : Hp) (ps : List PV) => i ≤ l.length ∧ (∀ b o, (b, o) ∈ Z → w0.heap.size ≤ b) ∧ OwS w0.heap.size 95 2 u B ps.length (recsV PV.row ps) ∧ Pair (l.take i) ps Z) i_.1 i_.2.1 i_.2.2.1 i_.2.2.2.1 i_.2.2.2.2) (fun i_ => (fun (i : Nat) (u : Value) (B : Hp) (Z : Hp) (ps : List PV) => l.length - i) i_.1 i_.2.1 i_.2.2.1 i_.2.2.2.1 i_.2.2.2.2) ((0, _, _, [], [])) ?_ ⟨rfl, rfl, rfl, rfl, trivial⟩ (List.Perm.refl _) ?_
 ·try dsimp only
  exact ⟨by omega, (fun _ _ h => nomatch h), OwS.nil _ _ _, by simpa using Pair.nil⟩
 ·rintro ⟨i, u, B, Z, ps⟩ hp
  try dsimp only at hp
  obtain ⟨hi, hZ, ho, hp⟩ := hp
  show WC _ _ _ _ _ _ ([(3, u), (6, v), (7, I (l.length : Int)), (8, I (i : Int))]) ([B, Z, L])
  refine WC.seq (WC.region ?_)
  refine WL.q (oq_lss rfl rfl) rfl rfl rfl ?_
  refine WL.nil (WE.then_normal (WC.sub (fr' := [(3, _), (6, _), (7, _), (8, _), (9, _)]) ?_ ⟨rfl, rfl, rfl, rfl, rfl, trivial⟩))
  refine WC.seq ?_
  refine WC.cond rfl (fun q3 => ?_) (fun q3 => ?_)
  ·
   try simp only [Z1, Z2, Z3, Z4, Z5, Z6, Z7, Z8, Z9, Z0] at q3
   refine WC.skip (WE.then_normal (WC.sub (fr' := [(3, _), (6, _), (7, _), (8, _)]) ?_ ⟨rfl, rfl, rfl, rfl, trivial⟩))
   refine WC.seq (WC.block (WC.seq ?_))
   have hlt : i < l.length := by omega
   have hpl : ps.length = i := by rw [hp.1, List.length_take]; omega
   refine WC.region ?_
   refine WL.q (oq_ixaddr hr Tryz.underlying28 ty27 rfl rfl (by (first | omega | (simp only [List.length_cons, List.length_nil, List.length_append, List.length_drop, List.length_take]; omega)))) rfl rfl rfl ?_
   refine WL.q (oq_loadEl (f := HV.row) HV0 [_, _, _, _, _] (fun _ => rfl) agg27 ty27 hr (.tail _ (.tail _ (.head _))) rfl (by (first | omega | (simp only [List.length_cons, List.length_nil, List.length_append, List.length_drop, List.length_take]; omega))) (by first | exact Int.toNat_natCast _ | exact rfl) rfl) rfl rfl rfl ?_
   refine WL.alloc ty27 rfl rfl fun o5 ho5 => ?_
   refine WL.storeS #[_, _, _, _, _] ty27 rfl rfl rfl rfl (Nat.le_of_ble_eq_true rfl) rfl rfl ?_
   refine WL.nil (WE.then_normal (WC.sub (fr' := [(3, _), (5, _), (6, _), (7, _), (8, _)]) ?_ ⟨rfl, rfl, rfl, rfl, rfl, trivial⟩))
   refine WC.gate 7 ([(o5, .cells #[S (l.getD i HV0).name, I (l.getD i HV0).kind, I (l.getD i HV0).width, I (l.getD i HV0).int, S (l.getD i HV0).text] 27 (0, 0))]) (by kernel_rfl) ?_
   refine WG.p 0 rfl (.inr (.head _)) (fun w0 => oq_move rfl) rfl rfl rfl ?_
   refine WG.q 1 [6, 2] rfl (.head _) (fun w0 => oq_fieldAddr fld27_0 rfl) rfl rfl rfl ?_
   refine WG.q 2 [6] rfl (.head _) (fun w0 => oq_load flat9 rfl (.head _) (List.mem_singleton.2 rfl) rfl) rfl rfl rfl ?_
   refine WG.q 3 [6, 5, 4] rfl (.head _) (fun w0 => oq_fieldAddr fld27_1 rfl) rfl rfl rfl ?_
   refine WG.q 4 [6, 5] rfl (.head _) (fun w0 => oq_loadS [_, _, _, _] agg23 ty23 rfl (.head _) (List.mem_singleton.2 rfl) rfl rfl) rfl rfl rfl ?_
   refine WG.step (i := 5) (by kernel_rfl) rfl ?_
   refine WL.callA0 (valueFor (l.getD i HV0) (hok i hlt).1 (hok i hlt).2) call10 rfl rfl rfl fun v5_5 N5_5 hR5_5 hN5_5 => ?_
   obtain ⟨k5, r5, f5, rfl, hi5, hf5⟩ := hR5_5
   have hvo : VOk (l.getD i HV0) (.iface k5 r5) N5_5 := ⟨k5, r5, f5, rfl, hi5, hf5⟩
   refine WL.nil ?_
   refine WE.toG (.tail _ (.head _)) ?_
   refine WG.q 6 [] rfl (.tail _ (.head _)) (fun w0 => oq_build #[_, _] str95 ty95 rfl rfl) rfl rfl rfl ?_
   refine WG.step (i := 7) (by kernel_rfl) rfl ?_
   refine WL.buildSS (#[S (l.getD i HV0).name, .iface k5 r5]) Tryz.underlying55 ty95 rfl (by decide) (by decide) (by kernel_rfl) (by kernel_rfl) rfl rfl fun v5_7 A5_7 ho5_7 hne5_7 => ?_
   refine WL.nil ?_
   refine WE.toG0 (by kernel_rfl) ?_
   refine WG.step (i := 8) (by kernel_rfl) rfl ?_
   refine WL.f3 ?_
   refine WL.appendS ho Tryz.underlying55 ty95 rfl (by decide) rfl rfl ho5_7.rd (.head _) (onePV _ _ _) (by unfold maxLen; omega) (by omega) rfl rfl fun v5b A5b ho5b hne5b => ?_
   refine WL.nil ?_
   refine WE.toG0 (by kernel_rfl) ?_
   refine WG.p 9 rfl (.inl (by kernel_rfl)) (fun w0 => oq_assign rfl) rfl rfl rfl ?_
   refine WG.done (by kernel_rfl) ?_
   refine WE.block_normal (WE.then_normal (WC.sub (fr' := [(3, _), (6, _), (7, _), (8, _)]) ?_ ⟨rfl, rfl, rfl, rfl, trivial⟩))
   refine WC.f4 ?_
   refine WC.f3 ?_
   refine WC.cat ?_
   refine WC.region ?_
   refine WL.q (oq_add rfl rfl (by rw [i64_lo, i64_hi]; (first | omega | (simp only [List.length_cons, List.length_nil, List.length_append, List.length_drop, List.length_take]; omega)))) rfl rfl rfl ?_
   refine WL.q (oq_move rfl) rfl rfl rfl ?_
   refine WL.nil ?_
   refine WE.f2 ?_
   refine WE.forget ho5_7.fresh ?_
   refine WE.f2 ?_
   refine WE.lose ho5 ?_
   refine WE.f2 ?_
   refine WE.f1 ?_
   refine WE.f2 ?_
   refine WE.again (i + 1, _, _, _, ps ++ [⟨(l.getD i HV0).name, k5, r5⟩]) ?_ ?_ ⟨rfl, rfl, rfl, rfl, trivial⟩ (List.Perm.refl _)
   ·try dsimp only
    exact ⟨by omega, fresh_cat hN5_5 hZ, by have h2 := ho5b; rw [recsPV_snoc ps ⟨_, _, _⟩] at h2; simpa using h2, hp.snoc hlt hvo⟩
   ·(try dsimp only); omega
  ·
   try simp only [Z1, Z2, Z3, Z4, Z5, Z6, Z7, Z8, Z9, Z0] at q3
   refine WC.exit (WE.then_exit (WE.then_exit (WE.block_same (WE.then_normal (WC.sub (fr' := [(3, _)]) ?_ ⟨rfl, trivial⟩)))))
   refine WC.seq ?_
   obtain rfl : i = l.length := by omega
   rw [List.take_length] at hp
   refine WC.region ?_
   refine WL.q (oq_move rfl) rfl rfl rfl ?_
   refine WL.q (oq_assign rfl) rfl rfl rfl ?_
   refine WL.nil (WE.then_normal (WC.sub (fr' := [(2, _)]) ?_ ⟨rfl, trivial⟩))
   refine WC.ret ?_
   refine WE.cat ?_
   refine WE.endA (.inl rfl) (res1 Tryz.results17 rfl) ?_ (fresh_cat (ho.fresh) (hZ))
   exact ⟨ps, _, _, rfl, ho.rd, hp⟩
def hdr (h : HV) : List UInt8 := UInt8.ofNat h.name.length :: (h.name ++ enc h)
def hdrs (l : List HV) : List UInt8 := l.flatMap hdr
def badH (h : HV) : Bool := decide (255 < h.name.length) || badT h
def szH (h : HV) : Nat := h.name.length + h.text.length + 12
def szL (l : List HV) : Nat := (l.map szH).sum
theorem enc_len {h : HV} (hf : fineV h) : (enc h).length ≤ h.text.length + 11 := by
 obtain ⟨_, _, h1, _, _⟩ := hf
 unfold enc
 split
 ·rename_i hk
  have := h1 hk
  rw [List.length_cons, be_len]; omega
 ·split
  ·simp [be_len]; omega
  ·split
   ·simp [be_len]; omega
   ·split
    ·simp [be_len]
    ·split <;> simp
theorem hdr_len {h : HV} (hf : fineV h) : (hdr h).length ≤ szH h := by
 have := enc_len hf
 unfold hdr szH; simp; omega
theorem take_snoc {l : List HV} {i : Nat} (hi : i < l.length) : l.take (i + 1) = l.take i ++ [l.getD i HV0] := by
 rw [List.take_add_one, List.getD_eq_getElem?_getD, List.getElem?_eq_getElem hi]; rfl
theorem hdrs_snoc {l : List HV} {i : Nat} (hi : i < l.length) : hdrs (l.take (i + 1)) = hdrs (l.take i) ++ hdr (l.getD i HV0) := by
 rw [take_snoc hi]; simp [hdrs]
theorem szL_snoc {l : List HV} {i : Nat} (hi : i < l.length) : szL (l.take (i + 1)) = szL (l.take i) + szH (l.getD i HV0) := by
 rw [take_snoc hi]; simp [szL]
theorem szL_take (l : List HV) (i : Nat) : szL (l.take i) ≤ szL l := by
 have : szL l = szL (l.take i) + szL (l.drop i) := by unfold szL; rw [← List.sum_append, ← List.map_append, List.take_append_drop]
 omega
theorem hdrs_len {l : List HV} (hok : okH l) : ∀ i, i ≤ l.length → (hdrs (l.take i)).length ≤ szL (l.take i)
 | 0, _ => by simp [hdrs]
 | i + 1, h => by
  rw [hdrs_snoc (by omega), szL_snoc (by omega), List.length_append]
  have h1 := hdrs_len hok i (by omega)
  have h2 := hdr_len (hok i (by omega)).1
  omega
theorem cp_name (nm : List UInt8) (b0 : UInt8) (hn8 : b0.toNat = nm.length) : List.take (0 + 1 + 0) (b0 :: List.replicate 255 0) ++ List.take (min nm.length (b0.toNat - 0)) nm ++ List.drop (0 + 1 + 0 + min nm.length (b0.toNat - 0)) (b0 :: List.replicate 255 0) = b0 :: (nm ++ List.replicate (255 - nm.length) 0) := by
 rw [hn8, Nat.sub_zero, Nat.min_self, List.take_length, show 0 + 1 + 0 + nm.length = nm.length + 1 by omega, List.drop_succ_cons, List.drop_replicate]; rfl
theorem nm_len (nm : List UInt8) (h : nm.length ≤ 255) : (nm ++ List.replicate (255 - nm.length) (0 : UInt8)).length = 255 := by rw [List.length_append, List.length_replicate]; omega
theorem nm_len2 (b0 : UInt8) (nm : List UInt8) (h : nm.length ≤ 255) : (b0 :: (nm ++ List.replicate (255 - nm.length) (0 : UInt8))).length = 256 := by rw [List.length_cons, nm_len nm h]
def HdR (base bb : Nat) (l : List HV) (acc : List UInt8) (M Z : Hp) (w : Value) (Hs : List Hp) : Prop :=
 ∃ G' acc', Hs = [G', M, Z] ∧ BufG base bb acc' G' ∧ if l.any badH then ∃ k e, w = .iface k e else w = .nilIface ∧ acc' = acc ++ hdrs l
theorem any_take {l : List HV} {i : Nat} (hi : i < l.length) (hb : badH (l.getD i HV0) = true) : l.any badH = true := by
 rw [List.any_eq_true]
 refine ⟨l.getD i HV0, ?_, hb⟩
 rw [List.getD_eq_getElem?_getD, List.getElem?_eq_getElem hi]; exact List.getElem_mem hi
theorem any_snoc {l : List HV} {i : Nat} (hi : i < l.length) (h : (l.take i).any badH = false) (hb : badH (l.getD i HV0) = false) : (l.take (i + 1)).any badH = false := by
 rw [take_snoc hi, List.any_append, h, List.any_cons, hb]; rfl
theorem encR_split {base bb : Nat} {h : HV} {acc : List UInt8} {N : Hp} {w : Value} {Hs : List Hp} (hE : EncR base bb h acc N w Hs) : ∃ G', Hs = [G', N] ∧ (w = .nilIface ∨ ∃ k u, w = .iface k u) ∧ (nilI w = true → badT h = false ∧ BufG base bb (acc ++ enc h) G') ∧ (nilI w = false → badT h = true ∧ (∃ k e, w = .iface k e) ∧ BufG base bb acc G') := by
 unfold EncR at hE
 cases hb : badT h with
 | true => rw [hb] at hE; obtain ⟨e, G', rfl, rfl, hG⟩ := hE; exact ⟨G', rfl, (.inr ⟨_, _, rfl⟩), (fun h => nomatch h), (fun _ => ⟨rfl, ⟨_, _, rfl⟩, hG⟩)⟩
 | false => rw [hb] at hE; obtain ⟨G', rfl, rfl, hG⟩ := hE; exact ⟨G', rfl, (.inl rfl), (fun _ => ⟨rfl, hG⟩), (fun h => nomatch h)⟩
theorem encHeaders (base bb : Nat) (acc : List UInt8) (G : Hp) (hG : BufG base bb acc G) (v : Value) (M Z : Hp) (l : List HV) (ps : List PV) (hr : RdS 2 v M ps.length (recsV PV.row ps)) (hp : Pair l ps Z) (hok : okH l) (hn : l.length ≤ 1000) (hsz : acc.length + szL l ≤ 200000) : FnW Tryz.prog 24 [.iface 53 (Pt bb 0), v] base [G, M, Z] (HdR base bb l acc M Z) := by
 have hpl := hp.1
 refine FnW.enter (n := 54) Tryz.func24 rfl rfl fun w0 R0 hbase => ?_
 subst hbase
 show WC _ _ _ _ _ _ _ ([G, M, Z, R0])
 refine WC.sub (fr' := [(0, _), (1, _)]) ?_ ⟨rfl, rfl, trivial⟩
 refine WC.seq (WC.region ?_)
 refine WL.q (oq_assign rfl) rfl rfl rfl ?_
 refine WL.nil (WE.then_normal (WC.sub (fr' := [(0, _), (1, _)]) ?_ ⟨rfl, rfl, trivial⟩))
 refine WC.seq (WC.seq (WC.region ?_))
 refine WL.q (oq_move rfl) rfl rfl rfl ?_
 refine WL.q (oq_len_rd hr Tryz.underlying55 rfl) rfl rfl rfl ?_
 refine WL.q (oq_move rfl) rfl rfl rfl ?_
 refine WL.nil (WE.then_normal (WC.sub (fr' := [(0, _), (10, _), (11, _), (12, _)]) ?_ ⟨rfl, rfl, rfl, rfl, trivial⟩))
 refine WC.block ?_
 refine WC.loop (ι := Nat × Hp) (fun i_ => (fun (i : Nat) (X : Hp) => [(0, .iface 53 (Pt bb 0)), (10, v), (11, I (ps.length : Int)), (12, I (i : Int))]) i_.1 i_.2) (fun i_ => (fun (i : Nat) (X : Hp) => [X, M, Z, R0]) i_.1 i_.2) (fun i_ => (fun (i : Nat) (X : Hp) => i ≤ l.length ∧ (l.take i).any badH = false ∧ BufG w0.heap.size bb (acc ++ hdrs (l.take i)) X) i_.1 i_.2) (fun i_ => (fun (i : Nat) (X : Hp) => l.length - i) i_.1 i_.2) ((0, G)) ?_ ⟨rfl, rfl, rfl, rfl, trivial⟩ (List.Perm.refl _) ?_
 ·try dsimp only
  exact ⟨by omega, rfl, by simpa [hdrs] using hG⟩
 ·rintro ⟨i, X⟩ hp
  try dsimp only at hp
  obtain ⟨hi, hno, hX⟩ := hp
  show WC _ _ _ _ _ _ ([(0, .iface 53 (Pt bb 0)), (10, v), (11, I (ps.length : Int)), (12, I (i : Int))]) ([X, M, Z, R0])
  refine WC.seq (WC.region ?_)
  refine WL.q (oq_lss rfl rfl) rfl rfl rfl ?_
  refine WL.nil (WE.then_normal (WC.sub (fr' := [(0, _), (10, _), (11, _), (12, _), (13, _)]) ?_ ⟨rfl, rfl, rfl, rfl, rfl, trivial⟩))
  refine WC.seq ?_
  refine WC.cond rfl (fun q2 => ?_) (fun q2 => ?_)
  ·
   try simp only [Z1, Z2, Z3, Z4, Z5, Z6, Z7, Z8, Z9, Z0] at q2
   refine WC.skip (WE.then_normal (WC.sub (fr' := [(0, _), (10, _), (11, _), (12, _)]) ?_ ⟨rfl, rfl, rfl, rfl, trivial⟩))
   refine WC.seq (WC.block (WC.seq ?_))
   have hlt : i < l.length := by omega
   obtain ⟨hpn, hvo⟩ := hp.2 i hlt
   have hls := szL_take l (i + 1)
   rw [szL_snoc hlt] at hls
   have hll := hdrs_len hok i hi
   have hle : szH (l.getD i HV0) = (l.getD i HV0).name.length + (l.getD i HV0).text.length + 12 := rfl
   refine WC.region ?_
   refine WL.q (oq_ixaddr hr Tryz.underlying55 ty95 rfl rfl (by (first | omega | (simp only [List.length_cons, List.length_nil, List.length_append, List.length_drop, List.length_take]; omega)))) rfl rfl rfl ?_
   refine WL.q (oq_loadEl (f := PV.row) PV0 [_, _] (fun _ => rfl) agg95 ty95 hr (.tail _ (.head _)) rfl (by (first | omega | (simp only [List.length_cons, List.length_nil, List.length_append, List.length_drop, List.length_take]; omega))) (by first | exact Int.toNat_natCast _ | exact rfl) rfl) rfl rfl rfl ?_
   refine WL.alloc ty95 rfl rfl fun o6 ho6 => ?_
   refine WL.storeS #[_, _] ty95 rfl rfl rfl rfl (Nat.le_of_ble_eq_true rfl) rfl rfl ?_
   refine WL.nil (WE.then_normal (WC.sub (fr' := [(0, _), (6, _), (10, _), (11, _), (12, _)]) ?_ ⟨rfl, rfl, rfl, rfl, rfl, trivial⟩))
   refine WC.seq (WC.seq (WC.region ?_))
   refine WL.q (oq_fieldAddr fld95_0 rfl) rfl rfl rfl ?_
   refine WL.q (oq_load flat9 rfl (.head _) (List.mem_singleton.2 rfl) rfl) rfl rfl rfl ?_
   refine WL.q (oq_len_s Tryz.underlying9 rfl) rfl rfl rfl ?_
   refine WL.q (oq_gtr rfl rfl) rfl rfl rfl ?_
   refine WL.nil (WE.then_normal (WC.sub (fr' := [(0, _), (6, _), (10, _), (11, _), (12, _), (19, _)]) ?_ ⟨rfl, rfl, rfl, rfl, rfl, rfl, trivial⟩))
   refine WC.cond rfl (fun q4 => ?_) (fun q4 => ?_)
   ·
    try simp only [Z1, Z2, Z3, Z4, Z5, Z6, Z7, Z8, Z9, Z0] at q4
    refine WC.seq (WC.region ?_)
    refine WL.q (oq_fieldAddr fld95_0 rfl) rfl rfl rfl ?_
    refine WL.q (oq_load flat9 rfl (.head _) (List.mem_singleton.2 rfl) rfl) rfl rfl rfl ?_
    refine WL.q (oq_len_s Tryz.underlying9 rfl) rfl rfl rfl ?_
    refine WL.q (oq_fieldAddr fld95_0 rfl) rfl rfl rfl ?_
    refine WL.q (oq_load flat9 rfl (.head _) (List.mem_singleton.2 rfl) rfl) rfl rfl rfl ?_
    refine WL.q (oq_makeI conc9 rfl) rfl rfl rfl ?_
    refine WL.q (oq_build #[_, _, _, _] str104 ty104 rfl rfl) rfl rfl rfl ?_
    refine WL.q (oq_makeI conc104 rfl) rfl rfl rfl ?_
    refine WL.q (oq_assign rfl) rfl rfl rfl ?_
    refine WL.nil (WE.then_normal (WC.sub (fr' := [(4, _)]) ?_ ⟨rfl, trivial⟩))
    refine WC.ret (WE.then_ret (WE.block_ret (WE.then_ret (WE.then_ret (WE.block_ret (WE.then_ret ?_))))))
    refine WE.lose ho6 ?_
    refine WE.endW3 (.inl rfl) (res1 Tryz.results24 rfl) ?_
    exact ⟨_, _, rfl, hX, by rw [if_pos (any_take hlt (by unfold badH; rw [← hpn, decide_eq_true (by omega)]; rfl))]; exact ⟨_, _, rfl⟩⟩
   ·
    try simp only [Z1, Z2, Z3, Z4, Z5, Z6, Z7, Z8, Z9, Z0] at q4
    refine WC.skip (WE.then_normal (WC.sub (fr' := [(0, _), (6, _), (10, _), (11, _), (12, _)]) ?_ ⟨rfl, rfl, rfl, rfl, rfl, trivial⟩))
    refine WC.seq (WC.region ?_)
    refine WL.q (oq_fieldAddr fld95_0 rfl) rfl rfl rfl ?_
    refine WL.q (oq_load flat9 rfl (.head _) (List.mem_singleton.2 rfl) rfl) rfl rfl rfl ?_
    refine WL.q (oq_len_s Tryz.underlying9 rfl) rfl rfl rfl ?_
    refine WL.q ((oq_conv Tryz.underlying3 Tryz.underlying5 rfl (by rw [u8_lo, u8_hi]; omega)).to (v' := .int .u8 ((UInt8.ofNat (ps.getD i PV0).name.length).toNat : Int)) (by rw [UInt8.toNat_ofNat']; congr 1; omega)) rfl rfl rfl ?_
    refine WL.q (oq_build ((bytesV (UInt8.ofNat (ps.getD i PV0).name.length :: List.replicate 255 0)).toArray) str107 ty107 rfl (by kernel_rfl)) rfl rfl rfl ?_
    refine WL.alloc ty107 rfl rfl fun o7 ho7 => ?_
    refine WL.storeS ((bytesV (UInt8.ofNat (ps.getD i PV0).name.length :: List.replicate 255 0)).toArray) ty107 rfl rfl (by kernel_rfl) (by kernel_rfl) (Nat.le_of_ble_eq_true rfl) (by kernel_rfl) rfl ?_
    refine WL.nil (WE.then_normal (WC.sub (fr' := [(0, _), (6, _), (7, _), (10, _), (11, _), (12, _)]) ?_ ⟨rfl, rfl, rfl, rfl, rfl, rfl, trivial⟩))
    refine WC.seq ?_
    have hn8 : (UInt8.ofNat (ps.getD i PV0).name.length).toNat = (ps.getD i PV0).name.length := by rw [UInt8.toNat_ofNat']; omega
    refine WC.tailM (pl := []) (ql := [_, _, _, _, _, _]) (tl := [_]) [] [0, 1, 2, 3, 4, 5] 6 [] (by kernel_rfl) (by kernel_rfl) (by kernel_rfl) (by kernel_rfl) (by kernel_rfl) (by kernel_rfl) (by decide) rfl rfl rfl (by decide) (by repeat (first | with_reducible exact QOk.body | with_reducible apply QOk.then | with_reducible apply QOk.block | exact QOk.body | apply QOk.then | apply QOk.block)) ?_
    refine WM.nil ?_
    refine WY.q (oq_fieldAddr fld107_1 rfl) rfl rfl rfl ?_
    refine WY.q (oq_fieldAddr fld107_0 rfl) rfl rfl rfl ?_
    refine WY.q (oq_load flat5 rfl (.head _) (List.mem_singleton.2 rfl) rfl) rfl rfl rfl ?_
    refine WY.q (oq_sliceArr (j := (UInt8.ofNat (ps.getD i PV0).name.length).toNat) Tryz.underlying105 ty5 rfl rfl ⟨_, rfl⟩ (by (first | omega | (simp only [List.length_cons, List.length_replicate]; omega))) (by (first | omega | (simp only [List.length_cons, List.length_replicate]; omega)))) rfl rfl rfl ?_
    refine WY.q (oq_fieldAddr fld95_0 rfl) rfl rfl rfl ?_
    refine WY.q (oq_load flat9 rfl (.tail _ (.head _)) (List.mem_singleton.2 rfl) rfl) rfl rfl rfl ?_
    refine WY.nil ?_
    refine WL.copyBS Tryz.underlying31 ty5 rfl rfl (by (first | omega | (simp only [List.length_cons, List.length_replicate]; omega))) rfl rfl ?_
    refine WL.nil (WE.then_normal (WC.sub (fr' := [(0, _), (6, _), (7, _), (10, _), (11, _), (12, _)]) ?_ ⟨rfl, rfl, rfl, rfl, rfl, rfl, trivial⟩))
    refine WC.seq (WC.seq ?_)
    rw [cp_name (ps.getD i PV0).name (UInt8.ofNat (ps.getD i PV0).name.length) hn8]
    refine WC.region ?_
    refine WL.q (oq_loadArr agg107 ty107 ((nm_len2 _ _ (by omega))) rfl (.head _)) rfl rfl rfl ?_
    refine WL.q (oq_move rfl) rfl rfl rfl ?_
    refine WL.f2 ?_
    refine WL.callW1 (nameEnc _ _ _ _ _ (bufWr _ bb) _ X hX (UInt8.ofNat (ps.getD i PV0).name.length) ((ps.getD i PV0).name ++ List.replicate (255 - (ps.getD i PV0).name.length) 0) (nm_len _ (by omega)) (by rw [List.length_append]; omega)) call36 rfl rfl rfl fun v8_2 Hs8_2 hR8_2 => ?_
    obtain ⟨X2, rfl, rfl, hX2⟩ := hR8_2
    refine WL.to1 ?_
    refine WL.q (oq_assign rfl) rfl rfl rfl ?_
    refine WL.nil (WE.then_normal (WC.sub (fr' := [(0, _), (6, _), (8, _), (10, _), (11, _), (12, _)]) ?_ ⟨rfl, rfl, rfl, rfl, rfl, rfl, trivial⟩))
    refine WC.seq (WC.region ?_)
    refine WL.q (oq_move rfl) rfl rfl rfl ?_
    refine WL.q (oq_ineq Tryz.underlying49 rfl (.inl rfl)) rfl rfl rfl ?_
    refine WL.nil (WE.then_normal (WC.sub (fr' := [(0, _), (6, _), (8, _), (10, _), (11, _), (12, _), (44, _)]) ?_ ⟨rfl, rfl, rfl, rfl, rfl, rfl, rfl, trivial⟩))
    refine WC.cond rfl (fun q9 => ?_) (fun q9 => ?_)
    ·
     try simp only [Z1, Z2, Z3, Z4, Z5, Z6, Z7, Z8, Z9, Z0] at q9
     first | contradiction | (exfalso; omega) | (exfalso; simp_all; done)
    ·
     try simp only [Z1, Z2, Z3, Z4, Z5, Z6, Z7, Z8, Z9, Z0] at q9
     refine WC.skip (WE.then_normal (WC.sub (fr' := [(0, _), (6, _), (10, _), (11, _), (12, _)]) ?_ ⟨rfl, rfl, rfl, rfl, rfl, trivial⟩))
     refine WC.seq (WC.region ?_)
     refine WL.q (oq_fieldAddr fld95_1 rfl) rfl rfl rfl ?_
     refine WL.q (oq_load flat37 rfl (.tail _ (.tail _ (.head _))) (List.mem_singleton.2 rfl) rfl) rfl rfl rfl ?_
     refine WL.q (oq_move rfl) rfl rfl rfl ?_
     have hX3 : BufG w0.heap.size bb (acc ++ hdrs (l.take i) ++ (UInt8.ofNat (ps.getD i PV0).name.length :: (ps.getD i PV0).name)) X2 := by
      have e1 : (UInt8.ofNat (ps.getD i PV0).name.length).toNat = (ps.getD i PV0).name.length := by rw [UInt8.toNat_ofNat']; omega
      rw [e1, List.take_left' rfl] at hX2; exact hX2
     obtain ⟨_, _, f5, hkr, hi5, hf5⟩ := hvo
     injection hkr with hk1 hk2
     subst hk1 hk2
     refine WL.f4 ?_
     refine WL.f1 ?_
     refine WL.callWE (fun a w hf => ent_inv1 hi5 rfl rfl hf w) (hf5 _ bb _ X2 hX3 (by simp only [List.length_append, List.length_cons, hpn]; omega)) rfl rfl rfl rfl fun v11_3 Hs11_3 hR11_3 => ?_
     obtain ⟨X4, rfl, hei, he0, he1⟩ := encR_split hR11_3
     refine WL.app2 ?_
     refine WL.q (oq_assign rfl) rfl rfl rfl ?_
     refine WL.nil (WE.then_normal (WC.sub (fr' := [(0, _), (9, _), (10, _), (11, _), (12, _)]) ?_ ⟨rfl, rfl, rfl, rfl, rfl, trivial⟩))
     refine WC.seq (WC.region ?_)
     refine WL.q (oq_move rfl) rfl rfl rfl ?_
     refine WL.q (oq_ineq Tryz.underlying49 rfl (hei)) rfl rfl rfl ?_
     refine WL.nil (WE.then_normal (WC.sub (fr' := [(0, _), (9, _), (10, _), (11, _), (12, _), (51, _)]) ?_ ⟨rfl, rfl, rfl, rfl, rfl, rfl, trivial⟩))
     refine WC.cond rfl (fun q12 => ?_) (fun q12 => ?_)
     ·
      try simp only [Z1, Z2, Z3, Z4, Z5, Z6, Z7, Z8, Z9, Z0] at q12
      refine WC.seq (WC.region ?_)
      refine WL.q (oq_move rfl) rfl rfl rfl ?_
      refine WL.q (oq_assign rfl) rfl rfl rfl ?_
      refine WL.nil (WE.then_normal (WC.sub (fr' := [(4, _)]) ?_ ⟨rfl, trivial⟩))
      refine WC.ret (WE.block_ret (WE.then_ret (WE.then_ret (WE.block_ret (WE.then_ret ?_)))))
      refine WE.f2 ?_
      refine WE.lose ho7 ?_
      refine WE.f2 ?_
      refine WE.lose ho6 ?_
      refine WE.f3 ?_
      refine WE.f2 ?_
      refine WE.f3 ?_
      refine WE.f3 ?_
      refine WE.endW3 (.inl rfl) (res1 Tryz.results24 rfl) ?_
      obtain ⟨hb, ⟨k9, e9, rfl⟩, hG9⟩ := he1 (by simpa using q12)
      exact ⟨_, _, rfl, hG9, by rw [if_pos (any_take hlt (by unfold badH; rw [hb, Bool.or_true]))]; exact ⟨_, _, rfl⟩⟩
     ·
      try simp only [Z1, Z2, Z3, Z4, Z5, Z6, Z7, Z8, Z9, Z0] at q12
      refine WC.skip (WE.block_normal (WE.then_normal (WC.sub (fr' := [(0, _), (10, _), (11, _), (12, _)]) ?_ ⟨rfl, rfl, rfl, rfl, trivial⟩)))
      refine WC.region ?_
      refine WL.q (oq_add rfl rfl (by rw [i64_lo, i64_hi]; (first | omega | (simp only [List.length_cons, List.length_nil, List.length_append, List.length_drop, List.length_take]; omega)))) rfl rfl rfl ?_
      refine WL.q (oq_move rfl) rfl rfl rfl ?_
      refine WL.nil ?_
      refine WE.f2 ?_
      refine WE.lose ho7 ?_
      refine WE.f2 ?_
      refine WE.lose ho6 ?_
      refine WE.f3 ?_
      refine WE.f2 ?_
      refine WE.f3 ?_
      refine WE.f3 ?_
      refine WE.again (i + 1, X4) ?_ ?_ ⟨rfl, rfl, rfl, rfl, trivial⟩ (List.Perm.refl _)
      ·try dsimp only
       have hz := he0 (by simpa using q12)
       refine ⟨by omega, any_snoc hlt hno (by unfold badH; rw [hz.1, ← hpn, decide_eq_false (by omega)]; rfl), ?_⟩
       have hz2 := hz.2
       rw [hpn] at hz2
       rw [hdrs_snoc hlt, ← List.append_assoc]
       simpa [hdr] using hz2
      ·(try dsimp only); omega
  ·
   try simp only [Z1, Z2, Z3, Z4, Z5, Z6, Z7, Z8, Z9, Z0] at q2
   refine WC.exit (WE.then_exit (WE.then_exit (WE.block_same (WE.then_normal (WC.sub (fr' := []) ?_ trivial)))))
   refine WC.seq ?_
   obtain rfl : i = l.length := by omega
   rw [List.take_length] at hX hno
   refine WC.region ?_
   refine WL.q (oq_assign rfl) rfl rfl rfl ?_
   refine WL.nil (WE.then_normal (WC.sub (fr' := [(4, _)]) ?_ ⟨rfl, trivial⟩))
   refine WC.ret ?_
   refine WE.endW3 (.inl rfl) (res1 Tryz.results24 rfl) ?_
   exact ⟨_, _, rfl, hX, by rw [hno, if_neg (by simp)]; exact ⟨rfl, rfl⟩⟩
end EJ
end Go.Proofs.YtinkaobaboffcaaGreatDoor
/- Preludes, many writers, encoders. -/
namespace Go.Proofs.YtinkaobaboffcaaGreatDoor
open Go Go.RowKit V EA EB EC ED EE EF EG EH EI EJ
set_option linter.unusedSimpArgs false
set_option linter.unusedVariables false
set_option maxRecDepth 10000
namespace EK
theorem call22 : Callable Tryz.prog 22 := ⟨_, Tryz.func22, rfl, by kernel_rfl⟩
theorem call29 : Callable Tryz.prog 29 := ⟨_, Tryz.func29, rfl, by kernel_rfl⟩
theorem call30 : Callable Tryz.prog 30 := ⟨_, Tryz.func30, rfl, by kernel_rfl⟩
theorem call37 : Callable Tryz.prog 37 := ⟨_, Tryz.func37, rfl, by kernel_rfl⟩
theorem flat79 : Flat Tryz.prog 79 := ⟨_, Tryz.underlying79, by simp⟩
theorem flat82 : Flat Tryz.prog 82 := ⟨_, Tryz.underlying82, by simp⟩
theorem ty20 : Ty Tryz.prog 20 .nilIface 1 16 := ty_of (by kernel_rfl)
theorem ty77 : Ty Tryz.prog 77 (.agg #[(.pointer none), (.pointer none)]) 2 16 := ty_of (by kernel_rfl)
theorem ty79 : Ty Tryz.prog 79 .nilIface 1 16 := ty_of (by kernel_rfl)
theorem ty82 : Ty Tryz.prog 82 (.int .u32 0) 1 4 := ty_of (by kernel_rfl)
theorem ty110 : Ty Tryz.prog 110 (.pointer none) 1 8 := ty_of (by kernel_rfl)
theorem ty113 : Ty Tryz.prog 113 (.agg #[(.slice none 0 0)]) 1 24 := ty_of (by kernel_rfl)
theorem ty115 : Ty Tryz.prog 115 (.agg #[(.int .u32 0), (.int .u32 0), (.int .u32 0)]) 3 12 := ty_of (by kernel_rfl)
theorem conc82 : Conc Tryz.prog 82 := ⟨_, Tryz.underlying82, by simp⟩
theorem conc110 : Conc Tryz.prog 110 := ⟨_, Tryz.underlying110, by simp⟩
theorem agg115 : Agg Tryz.prog 115 := agg_of Tryz.underlying115
theorem str77 : Str Tryz.prog 77 #[(0, 1), (1, 1)] := ⟨_, Tryz.underlying77, fun w => by kernel_rfl⟩
theorem str113 : Str Tryz.prog 113 #[(0, 1)] := ⟨_, Tryz.underlying113, fun w => by kernel_rfl⟩
theorem str115 : Str Tryz.prog 115 #[(0, 1), (1, 1), (2, 1)] := ⟨_, Tryz.underlying115, fun w => by kernel_rfl⟩
theorem fld115_0 : Fld Tryz.prog 115 0 0 82 := fld_of Tryz.underlying115 rfl rfl rfl ty82 (by decide)
theorem fld115_1 : Fld Tryz.prog 115 1 1 82 := fld_of Tryz.underlying115 rfl rfl rfl ty82 (by decide)
theorem fld115_2 : Fld Tryz.prog 115 2 2 82 := fld_of Tryz.underlying115 rfl rfl rfl ty82 (by decide)
theorem bytesN_1 (d : Num) : bytesN [d] = be d.w d.x := by simp [bytesN]
theorem bytesN_2 (d e : Num) : bytesN [d, e] = be d.w d.x ++ be e.w e.x := by simp [bytesN]
theorem okU (x : Int) : Num.ok ⟨82, .u32, 4, x⟩ := by simp [Num.ok, Num.kinds]
def pre8 (hl pl : Nat) : List UInt8 := be 4 (16 + (hl : Int) + (pl : Int)) ++ be 4 (hl : Int)
def crcB (l : List UInt8) : List UInt8 := be 4 ((crc l).toNat : Int)
abbrev wval (x : TypeId × Value) : Value := .iface x.1 x.2
theorem validLens (n : Nat) (h0 : 0 < n) (a b : Value) : Fn0 Tryz.prog 37 [.agg #[.int .u32 (n : Int), a, b]] (.nilIface) := by
 refine Fn0.enter (n := 11) Tryz.func37 rfl rfl fun w0 => ?_
 refine WC.sub (fr' := [(0, _)]) ?_ ⟨rfl, trivial⟩
 refine WC.seq (WC.region ?_)
 refine WL.box rfl rfl rfl fun b0_0 hb0_0 => ?_
 refine WL.q (oq_assign rfl) rfl rfl rfl ?_
 refine WL.nil (WE.then_normal (WC.sub (fr' := [(1, _)]) ?_ ⟨rfl, trivial⟩))
 refine WC.seq (WC.seq (WC.region ?_))
 refine WL.q (oq_fieldAddr fld115_0 rfl) rfl rfl rfl ?_
 refine WL.q (oq_load flat82 rfl (.head _) (List.mem_singleton.2 rfl) rfl) rfl rfl rfl ?_
 refine WL.q (oq_eql rfl rfl) rfl rfl rfl ?_
 refine WL.nil (WE.then_normal (WC.sub (fr' := [(1, _), (5, _)]) ?_ ⟨rfl, rfl, trivial⟩))
 refine WC.cond rfl (fun q1 => ?_) (fun q1 => ?_)
 ·
  try simp only [Z1, Z2, Z3, Z4, Z5, Z6, Z7, Z8, Z9, Z0] at q1
  first | contradiction | (exfalso; omega) | (exfalso; simp_all; done)
 ·
  try simp only [Z1, Z2, Z3, Z4, Z5, Z6, Z7, Z8, Z9, Z0] at q1
  refine WC.skip (WE.then_normal (WC.sub (fr' := []) ?_ trivial))
  refine WC.seq (WC.region ?_)
  refine WL.q (oq_assign rfl) rfl rfl rfl ?_
  refine WL.nil (WE.then_normal (WC.sub (fr' := [(2, _)]) ?_ ⟨rfl, trivial⟩))
  refine WC.ret ?_
  refine WE.lose hb0_0 ?_
  refine WE.end0 (.inl rfl) (res1 Tryz.results37 rfl) ?_
  rfl
theorem encPrelude (base hb : Nat) (k : TypeId) (r : Value) (f : FuncId) (Wt : List UInt8 → Hp → Prop) (hW : Wr base k r f Wt) (acc0 : List UInt8) (G : Hp) (hG : Wt acc0 G) (hS : ∀ acc G, Wt acc G → FnR Tryz.prog 29 [Pt hb 0] G (U32 (crc acc))) (hl pl : Nat) (hhl : hl ≤ 1000000) (hpl : pl ≤ 1000000) (hal : acc0.length ≤ 200000) : FnW Tryz.prog 27 [.iface k r, Pt hb 0, .int .u32 (hl : Int), .int .u32 (pl : Int)] base [G] (Then Wt (acc0 ++ (pre8 hl pl ++ crcB (acc0 ++ pre8 hl pl))) []) := by
 refine FnW.enter (n := 47) Tryz.func27 rfl rfl fun w0 R0 hbase => ?_
 subst hbase
 show WC _ _ _ _ _ _ _ ([G, R0])
 refine WC.sub (fr' := [(0, _), (1, _), (2, _), (3, _)]) ?_ ⟨rfl, rfl, rfl, rfl, trivial⟩
 refine WC.seq (WC.region ?_)
 refine WL.q (oq_assign rfl) rfl rfl rfl ?_
 refine WL.nil (WE.then_normal (WC.sub (fr' := [(0, _), (1, _), (2, _), (3, _)]) ?_ ⟨rfl, rfl, rfl, rfl, trivial⟩))
 refine WC.seq (WC.region ?_)
 refine WL.q (oq_move rfl) rfl rfl rfl ?_
 refine WL.q (oq_add rfl rfl (by rw [u32_lo, u32_hi]; (first | omega | (simp only [List.length_cons, List.length_nil, List.length_append, List.length_drop, List.length_take]; omega)))) rfl rfl rfl ?_
 refine WL.q (oq_move rfl) rfl rfl rfl ?_
 refine WL.q (oq_add rfl rfl (by rw [u32_lo, u32_hi]; (first | omega | (simp only [List.length_cons, List.length_nil, List.length_append, List.length_drop, List.length_take]; omega)))) rfl rfl rfl ?_
 refine WL.q (oq_move rfl) rfl rfl rfl ?_
 refine WL.q (oq_build #[_, _, _] str115 ty115 rfl rfl) rfl rfl rfl ?_
 refine WL.alloc ty115 rfl rfl fun pb hpb => ?_
 refine WL.storeS #[_, _, _] ty115 rfl rfl rfl rfl (Nat.le_of_ble_eq_true rfl) rfl rfl ?_
 refine WL.nil (WE.then_normal (WC.sub (fr' := [(0, _), (1, _), (9, _)]) ?_ ⟨rfl, rfl, rfl, trivial⟩))
 refine WC.seq (WC.seq (WC.region ?_))
 refine WL.q (oq_loadS [_, _, _] agg115 ty115 rfl (.head _) (List.mem_singleton.2 rfl) rfl rfl) rfl rfl rfl ?_
 refine WL.qc (oq_call (validLens (16 + hl + pl) (by omega) _ _) call37 rfl) rfl rfl rfl ?_
 refine WL.q (oq_assign rfl) rfl rfl rfl ?_
 refine WL.nil (WE.then_normal (WC.sub (fr' := [(0, _), (1, _), (9, _), (10, _)]) ?_ ⟨rfl, rfl, rfl, rfl, trivial⟩))
 refine WC.seq (WC.region ?_)
 refine WL.q (oq_move rfl) rfl rfl rfl ?_
 refine WL.q (oq_ineq Tryz.underlying49 rfl (.inl rfl)) rfl rfl rfl ?_
 refine WL.nil (WE.then_normal (WC.sub (fr' := [(0, _), (1, _), (9, _), (10, _), (21, _)]) ?_ ⟨rfl, rfl, rfl, rfl, rfl, trivial⟩))
 refine WC.cond rfl (fun q3 => ?_) (fun q3 => ?_)
 ·
  try simp only [Z1, Z2, Z3, Z4, Z5, Z6, Z7, Z8, Z9, Z0] at q3
  first | contradiction | (exfalso; omega) | (exfalso; simp_all; done)
 ·
  try simp only [Z1, Z2, Z3, Z4, Z5, Z6, Z7, Z8, Z9, Z0] at q3
  refine WC.skip (WE.then_normal (WC.sub (fr' := [(0, _), (1, _), (9, _)]) ?_ ⟨rfl, rfl, rfl, trivial⟩))
  refine WC.seq (WC.region ?_)
  refine WL.q (oq_move rfl) rfl rfl rfl ?_
  refine WL.q (oq_fieldAddr fld115_0 rfl) rfl rfl rfl ?_
  refine WL.q (oq_load flat82 rfl (.head _) (List.mem_singleton.2 rfl) rfl) rfl rfl rfl ?_
  refine WL.q (oq_makeI conc82 rfl) rfl rfl rfl ?_
  refine WL.q (oq_fieldAddr fld115_1 rfl) rfl rfl rfl ?_
  refine WL.q (oq_load flat82 rfl (.head _) (List.mem_singleton.2 rfl) rfl) rfl rfl rfl ?_
  refine WL.q (oq_makeI conc82 rfl) rfl rfl rfl ?_
  refine WL.buildL Tryz.underlying120 ty20 rfl rfl (by decide) (by decide) rfl rfl rfl fun v5 A5 ho5 hne5 => ?_
  refine WL.f2 ?_
  refine WL.f1 ?_
  refine WL.callW2 (zzWrite _ k r f Wt hW acc0 G hG v5 A5 [⟨82, .u32, 4, 16 + (hl : Int) + (pl : Int)⟩, ⟨82, .u32, 4, (hl : Int)⟩] ho5.rd (ok2 (okU _) (okU _)) (by simp) (by simp; omega)) call30 rfl rfl rfl fun v5_8 Hs5_8 hR5_8 => ?_
  obtain ⟨G2, rfl, rfl, hG2⟩ := hR5_8
  rw [bytesN_2] at hG2
  have hG2 : Wt (acc0 ++ pre8 hl pl) G2 := hG2
  have h8 : (pre8 hl pl).length = 8 := by unfold pre8; rw [List.length_append, be_len, be_len]
  refine WL.to2 ?_
  refine WL.q (oq_assign rfl) rfl rfl rfl ?_
  refine WL.nil (WE.then_normal (WC.sub (fr' := [(0, _), (1, _), (9, _), (11, _)]) ?_ ⟨rfl, rfl, rfl, rfl, trivial⟩))
  refine WC.seq (WC.seq (WC.region ?_))
  refine WL.q (oq_move rfl) rfl rfl rfl ?_
  refine WL.q (oq_ineq Tryz.underlying49 rfl (.inl rfl)) rfl rfl rfl ?_
  refine WL.nil (WE.then_normal (WC.sub (fr' := [(0, _), (1, _), (9, _), (11, _), (33, _)]) ?_ ⟨rfl, rfl, rfl, rfl, rfl, trivial⟩))
  refine WC.cond rfl (fun q6 => ?_) (fun q6 => ?_)
  ·
   try simp only [Z1, Z2, Z3, Z4, Z5, Z6, Z7, Z8, Z9, Z0] at q6
   first | contradiction | (exfalso; omega) | (exfalso; simp_all; done)
  ·
   try simp only [Z1, Z2, Z3, Z4, Z5, Z6, Z7, Z8, Z9, Z0] at q6
   refine WC.skip (WE.then_normal (WC.sub (fr' := [(0, _), (1, _), (9, _)]) ?_ ⟨rfl, rfl, rfl, trivial⟩))
   refine WC.seq (WC.region ?_)
   refine WL.q (oq_move rfl) rfl rfl rfl ?_
   refine WL.qc (oq_callRm (hS _ G2 hG2) (.tail _ (.head _)) call29 rfl) rfl rfl rfl ?_
   refine WL.q (oq_fieldAddr fld115_2 rfl) rfl rfl rfl ?_
   refine WL.f2 ?_
   refine WL.store1 #[_, _, _] ty82 rfl rfl (by first | rfl | exact OwS.one one_) (Nat.lt_of_lt_of_le (Nat.lt_succ_self _) (Nat.le_of_ble_eq_true rfl)) rfl rfl ?_
   refine WL.nil (WE.then_normal (WC.sub (fr' := [(0, _), (9, _)]) ?_ ⟨rfl, rfl, trivial⟩))
   refine WC.seq (WC.region ?_)
   refine WL.q (oq_move rfl) rfl rfl rfl ?_
   refine WL.q (oq_fieldAddr fld115_2 rfl) rfl rfl rfl ?_
   refine WL.q (oq_load flat82 rfl (.head _) (List.mem_singleton.2 rfl) rfl) rfl rfl rfl ?_
   refine WL.q (oq_makeI conc82 rfl) rfl rfl rfl ?_
   refine WL.buildL Tryz.underlying120 ty20 rfl rfl (by decide) (by decide) rfl rfl rfl fun v9 A9 ho9 hne9 => ?_
   refine WL.f3 ?_
   refine WL.f1 ?_
   refine WL.callW2 (zzWrite _ k r f Wt hW _ G2 hG2 v9 A9 [⟨82, .u32, 4, ((crc (acc0 ++ pre8 hl pl)).toNat : Int)⟩] ho9.rd (ok1 (okU _)) (by simp) (by rw [List.length_append]; simp; omega)) call30 rfl rfl rfl fun v9_5 Hs9_5 hR9_5 => ?_
   obtain ⟨G3, rfl, rfl, hG3⟩ := hR9_5
   rw [bytesN_1, List.append_assoc] at hG3
   refine WL.to2 ?_
   refine WL.q (oq_assign rfl) rfl rfl rfl ?_
   refine WL.nil (WE.then_normal (WC.sub (fr' := [(11, _)]) ?_ ⟨rfl, trivial⟩))
   refine WC.seq (WC.seq (WC.region ?_))
   refine WL.q (oq_move rfl) rfl rfl rfl ?_
   refine WL.q (oq_ineq Tryz.underlying49 rfl (.inl rfl)) rfl rfl rfl ?_
   refine WL.nil (WE.then_normal (WC.sub (fr' := [(11, _), (45, _)]) ?_ ⟨rfl, rfl, trivial⟩))
   refine WC.cond rfl (fun q10 => ?_) (fun q10 => ?_)
   ·
    try simp only [Z1, Z2, Z3, Z4, Z5, Z6, Z7, Z8, Z9, Z0] at q10
    first | contradiction | (exfalso; omega) | (exfalso; simp_all; done)
   ·
    try simp only [Z1, Z2, Z3, Z4, Z5, Z6, Z7, Z8, Z9, Z0] at q10
    refine WC.skip (WE.then_normal (WC.sub (fr' := []) ?_ trivial))
    refine WC.seq (WC.region ?_)
    refine WL.q (oq_assign rfl) rfl rfl rfl ?_
    refine WL.nil (WE.then_normal (WC.sub (fr' := [(8, _)]) ?_ ⟨rfl, trivial⟩))
    refine WC.ret ?_
    refine WE.forget ho9.fresh ?_
    refine WE.f1 ?_
    refine WE.lose hpb ?_
    refine WE.f1 ?_
    refine WE.forget ho5.fresh ?_
    refine WE.endW1 (.inl rfl) (res1 Tryz.results27 rfl) ?_
    exact ⟨_, rfl, rfl, hG3⟩
theorem multiWriter (v : Value) (L : Hp) (ws : List (TypeId × Value)) (hr : RdS 1 v L ws.length (ws.map wval)) (hn : ws.length ≤ 100) (hk : ∀ x ∈ ws, x.1 ≠ 110) : FnA Tryz.prog 25 [v] L (fun w N => ∃ mb u Ws, w = .iface 110 (Pt mb 0) ∧ N = [(mb, .cells #[u] 113 (0, 0))] ++ Ws ∧ RdS 1 u Ws ws.length (ws.map wval)) := by
 refine FnA.enter (n := 38) Tryz.func25 rfl rfl fun w0 => ?_
 refine WC.sub (fr' := [(0, _)]) ?_ ⟨rfl, trivial⟩
 refine WC.seq (WC.region ?_)
 refine WL.q (oq_assign rfl) rfl rfl rfl ?_
 refine WL.nil (WE.then_normal (WC.sub (fr' := [(0, _)]) ?_ ⟨rfl, trivial⟩))
 refine WC.seq (WC.region ?_)
 refine WL.q (oq_move rfl) rfl rfl rfl ?_
 refine WL.q (oq_len_rd hr Tryz.underlying109 rfl) rfl rfl rfl ?_
 refine WL.make0 Tryz.underlying109 ty79 rfl rfl (by omega) (by unfold maxLen; omega) rfl rfl fun v1_2 A1_2 ho1_2 hne1_2 => ?_
 refine WL.q (oq_assign rfl) rfl rfl rfl ?_
 refine WL.nil (WE.then_normal (WC.sub (fr' := [(0, _), (3, _)]) ?_ ⟨rfl, rfl, trivial⟩))
 refine WC.seq (WC.seq (WC.region ?_))
 refine WL.q (oq_move rfl) rfl rfl rfl ?_
 refine WL.q (oq_len_rd hr Tryz.underlying109 rfl) rfl rfl rfl ?_
 refine WL.q (oq_move rfl) rfl rfl rfl ?_
 refine WL.nil (WE.then_normal (WC.sub (fr' := [(3, _), (11, _), (12, _), (13, _)]) ?_ ⟨rfl, rfl, rfl, rfl, trivial⟩))
 refine WC.block ?_
 refine WC.loop (ι := Nat × Value × Hp) (fun i_ => (fun (i : Nat) (u : Value) (B : Hp) => [(3, u), (11, v), (12, I (ws.length : Int)), (13, I (i : Int))]) i_.1 i_.2.1 i_.2.2) (fun i_ => (fun (i : Nat) (u : Value) (B : Hp) => [B, L]) i_.1 i_.2.1 i_.2.2) (fun i_ => (fun (i : Nat) (u : Value) (B : Hp) => i ≤ ws.length ∧ OwS w0.heap.size 79 1 u B i ((ws.map wval).take i)) i_.1 i_.2.1 i_.2.2) (fun i_ => (fun (i : Nat) (u : Value) (B : Hp) => ws.length - i) i_.1 i_.2.1 i_.2.2) ((0, _, _)) ?_ ⟨rfl, rfl, rfl, rfl, trivial⟩ (List.Perm.refl _) ?_
 ·try dsimp only
  exact ⟨by omega, by assumption⟩
 ·rintro ⟨i, u, B⟩ hp
  try dsimp only at hp
  obtain ⟨hi, ho⟩ := hp
  show WC _ _ _ _ _ _ ([(3, u), (11, v), (12, I (ws.length : Int)), (13, I (i : Int))]) ([B, L])
  refine WC.seq (WC.region ?_)
  refine WL.q (oq_lss rfl rfl) rfl rfl rfl ?_
  refine WL.nil (WE.then_normal (WC.sub (fr' := [(3, _), (11, _), (12, _), (13, _), (14, _)]) ?_ ⟨rfl, rfl, rfl, rfl, rfl, trivial⟩))
  refine WC.seq ?_
  refine WC.cond rfl (fun q3 => ?_) (fun q3 => ?_)
  ·
   try simp only [Z1, Z2, Z3, Z4, Z5, Z6, Z7, Z8, Z9, Z0] at q3
   refine WC.skip (WE.then_normal (WC.sub (fr' := [(3, _), (11, _), (12, _), (13, _)]) ?_ ⟨rfl, rfl, rfl, rfl, trivial⟩))
   refine WC.seq (WC.block (WC.seq ?_))
   have hlt : i < ws.length := by omega
   refine WC.region ?_
   refine WL.q (oq_ixaddr hr Tryz.underlying109 ty79 rfl rfl (by (first | omega | (simp only [List.length_cons, List.length_nil, List.length_append, List.length_drop, List.length_take]; omega)))) rfl rfl rfl ?_
   refine WL.q (oq_load_el hr (by repeat (first | exact .head _ | apply List.Mem.tail)) flat79 rfl (by omega) (u := wval ws[i]) (by rw [Int.toNat_natCast, List.getElem?_map, List.getElem?_eq_getElem hlt]; rfl)) rfl rfl rfl ?_
   refine WL.q (oq_assign rfl) rfl rfl rfl ?_
   refine WL.nil (WE.then_normal (WC.sub (fr' := [(3, _), (5, _), (11, _), (12, _), (13, _)]) ?_ ⟨rfl, rfl, rfl, rfl, rfl, trivial⟩))
   refine WC.seq (WC.region ?_)
   refine WL.q (oq_move rfl) rfl rfl rfl ?_
   refine WL.q (oq_askG conc110 ty110 rfl) rfl rfl rfl ?_
   refine WL.q (oq_move rfl) rfl rfl rfl ?_
   refine WL.q (oq_extract rfl rfl) rfl rfl rfl ?_
   refine WL.q (oq_extract rfl rfl) rfl rfl rfl ?_
   refine WL.q (oq_assign rfl) rfl rfl rfl ?_
   refine WL.q (oq_assign rfl) rfl rfl rfl ?_
   refine WL.nil (WE.then_normal (WC.sub (fr' := [(3, _), (5, _), (6, _), (7, _), (11, _), (12, _), (13, _)]) ?_ ⟨rfl, rfl, rfl, rfl, rfl, rfl, rfl, trivial⟩))
   refine WC.seq (WC.region ?_)
   refine WL.q (oq_move rfl) rfl rfl rfl ?_
   refine WL.nil (WE.then_normal (WC.sub (fr' := [(3, _), (5, _), (6, _), (11, _), (12, _), (13, _), (22, _)]) ?_ ⟨rfl, rfl, rfl, rfl, rfl, rfl, rfl, trivial⟩))
   refine WC.cond rfl (fun q6 => ?_) (fun q6 => ?_)
   ·
    try simp only [Z1, Z2, Z3, Z4, Z5, Z6, Z7, Z8, Z9, Z0] at q6
    exact absurd q6 (hk _ (List.getElem_mem hlt))
   ·
    try simp only [Z1, Z2, Z3, Z4, Z5, Z6, Z7, Z8, Z9, Z0] at q6
    refine WC.region ?_
    refine WL.q (oq_move rfl) rfl rfl rfl ?_
    refine WL.q (oq_move rfl) rfl rfl rfl ?_
    refine WL.append1 ho Tryz.underlying109 ty79 rfl (by decide) (fun _ => rfl) rfl rfl (by unfold maxLen; omega) (by omega) rfl rfl (fun _ => rfl) rfl fun v8 A8 u8 ho8 hne8 => ?_
    refine WL.q (oq_assign rfl) rfl rfl rfl ?_
    refine WL.nil (WE.block_normal (WE.then_normal (WC.sub (fr' := [(3, _), (11, _), (12, _), (13, _)]) ?_ ⟨rfl, rfl, rfl, rfl, trivial⟩)))
    refine WC.region ?_
    refine WL.q (oq_add rfl rfl (by rw [i64_lo, i64_hi]; (first | omega | (simp only [List.length_cons, List.length_nil, List.length_append, List.length_drop, List.length_take]; omega)))) rfl rfl rfl ?_
    refine WL.q (oq_move rfl) rfl rfl rfl ?_
    refine WL.nil ?_
    refine WE.again (i + 1, _, _) ?_ ?_ ⟨rfl, rfl, rfl, rfl, trivial⟩ (List.Perm.refl _)
    ·try dsimp only
     exact ⟨by omega, by rw [List.take_add_one, List.getElem?_map, List.getElem?_eq_getElem hlt]; exact ho8⟩
    ·(try dsimp only); omega
  ·
   try simp only [Z1, Z2, Z3, Z4, Z5, Z6, Z7, Z8, Z9, Z0] at q3
   refine WC.exit (WE.then_exit (WE.then_exit (WE.block_same (WE.then_normal (WC.sub (fr' := [(3, _)]) ?_ ⟨rfl, trivial⟩)))))
   refine WC.seq ?_
   obtain ⟨pu, cu, rfl⟩ := ho.rd.shape
   refine WC.region ?_
   refine WL.q (oq_move rfl) rfl rfl rfl ?_
   refine WL.q (oq_build #[_] str113 ty113 rfl rfl) rfl rfl rfl ?_
   refine WL.box rfl rfl rfl fun mb hmb => ?_
   refine WL.q (oq_makeI conc110 rfl) rfl rfl rfl ?_
   refine WL.q (oq_assign rfl) rfl rfl rfl ?_
   refine WL.nil (WE.then_normal (WC.sub (fr' := [(2, _)]) ?_ ⟨rfl, trivial⟩))
   refine WC.ret ?_
   refine WE.cat ?_
   refine WE.endA (.inl rfl) (res1 Tryz.results25 rfl) ?_ (fresh_cat (fresh1 hmb) (ho.fresh))
   obtain rfl : i = ws.length := by omega
   rw [List.take_of_length_le (by simp)] at ho
   exact ⟨_, _, _, rfl, rfl, ho.rd⟩
theorem newEncoder  : FnA Tryz.prog 15 [] [] (fun w N => ∃ eb b1 b2, w = Pt eb 0 ∧ N = ([(eb, .cells #[Pt b1 0, Pt b2 0] 77 (0, 0))] ++ BB b1 (.slice none 0 0) 0) ++ BB b2 (.slice none 0 0) 0) := by
 refine FnA.enter0 (n := 5) Tryz.func15 rfl rfl fun w0 => ?_
 refine WC.sub (fr' := []) ?_ trivial
 refine WC.seq (WC.region ?_)
 refine WL.q (oq_assign rfl) rfl rfl rfl ?_
 refine WL.nil (WE.then_normal (WC.sub (fr' := []) ?_ trivial))
 refine WC.seq (WC.region ?_)
 refine WL.callA0 (newBuf) call22 rfl rfl rfl fun v1_0 N1_0 hR1_0 hN1_0 => ?_
 obtain ⟨b0, rfl, rfl⟩ := hR1_0
 refine WL.callA0 (newBuf) call22 rfl rfl rfl fun v1_1 N1_1 hR1_1 hN1_1 => ?_
 obtain ⟨b1, rfl, rfl⟩ := hR1_1
 refine WL.q (oq_build #[_, _] str77 ty77 rfl rfl) rfl rfl rfl ?_
 refine WL.box rfl rfl rfl fun eb heb => ?_
 refine WL.q (oq_assign rfl) rfl rfl rfl ?_
 refine WL.nil (WE.then_normal (WC.sub (fr' := [(0, _)]) ?_ ⟨rfl, trivial⟩))
 refine WC.ret ?_
 refine WE.f1 ?_
 refine WE.f2 ?_
 refine WE.f2 ?_
 refine WE.cat ?_
 refine WE.cat ?_
 refine WE.endA0 (.inl rfl) (res1 Tryz.results15 rfl) ?_ (fresh_cat (fresh_cat (fresh1 heb) (hN1_0)) (hN1_1))
 exact ⟨_, _, _, rfl, rfl⟩
end EK
end Go.Proofs.YtinkaobaboffcaaGreatDoor
/- Writers of many writers, buffers as groups. -/
namespace Go.Proofs.YtinkaobaboffcaaGreatDoor
open Go Go.RowKit V EA EB EC ED EE EF EG EH EI EJ EK
set_option linter.unusedSimpArgs false
set_option linter.unusedVariables false
namespace EL
theorem fw_perm {P : Program} {f : FuncId} {args : List Value} {base : Nat} {Hs Ks : List Hp} {F : Hp} {R R' : Value → List Hp → Prop} (h : FnW P f args base Hs R) (p : Ks.flatten.Perm (Hs.flatten ++ F)) (hr : ∀ v Hs', R v Hs' → ∃ Ks', R' v Ks' ∧ (Hs'.flatten ++ F).Perm Ks'.flatten) : FnW P f args base Ks R' := by
 intro w0 R0 w hb hw
 have e1 : ∀ (X : List Hp) (Y : Hp), (X ++ [Y]).flatten = X.flatten ++ Y := fun X Y => by simp
 have p1 : (Ks ++ [R0]).flatten.Perm (Hs ++ [F ++ R0]).flatten := by
  rw [e1, e1, ← List.append_assoc]; exact p.append_right _
 refine (h w0 (F ++ R0) w hb (hw.perm p1)).mono ?_
 rintro e w' ⟨v, Hs', he, hR, hst⟩
 obtain ⟨Ks', hR', p2⟩ := hr v Hs' hR
 refine ⟨v, Ks', he, hR', hst.perm ?_⟩
 rw [e1, e1, ← List.append_assoc]; exact p2.append_right _
theorem mid1 (W G F C : Hp) : ((W ++ G ++ F) ++ C).Perm ((G ++ C) ++ (W ++ F)) := by
 have h1 : (W ++ G ++ F ++ C).Perm (G ++ W ++ F ++ C) := ((List.perm_append_comm.append_right F).append_right C)
 have h2 : (G ++ W ++ F ++ C).Perm (G ++ C ++ (W ++ F)) := by
  rw [List.append_assoc G W F, List.append_assoc G (W ++ F) C, List.append_assoc G C]
  exact List.Perm.append_left _ List.perm_append_comm
 exact h1.trans h2
abbrev Hash (hb : Nat) (c : BitVec 32) : Hp := [(hb, .cells #[U32 c] 84 (0, 0))]
theorem midWr (base bb : Nat) (W F : Hp) : Wr base 53 (Pt bb 0) 64 (fun acc X => ∃ Gb, BufG base bb acc Gb ∧ X = (W ++ Gb) ++ F) := by
 refine ⟨invBW, nokBW _, ?_⟩
 rintro acc G s C data ⟨Gb, hG, rfl⟩ hr hl h0
 refine fw_perm (F := W ++ F) ((bufWr base bb).run acc Gb s C data hG hr hl h0) ?_ ?_
 ·simp only [List.flatten_cons, List.flatten_nil, List.append_nil]
  exact mid1 W Gb F C
 ·rintro v Hs ⟨G', rfl, rfl, hG'⟩
  refine ⟨_, ⟨_, rfl, rfl, G', hG', rfl⟩, ?_⟩
  simp only [List.flatten_cons, List.flatten_nil, List.append_nil]
  exact (mid1 W G' F C).symm
/-! ### A writer of two: a buffer and a sum -/
def MwG (base mb : Nat) (u : Value) (Ws : Hp) (bb hb : Nat) (acc : List UInt8) (X : Hp) : Prop := ∃ Gb, BufG base bb acc Gb ∧ X = (([(mb, .cells #[u] 113 (0, 0))] ++ Ws) ++ Gb) ++ Hash hb (crc acc)
def St2 (base bb hb : Nat) (acc data : List UInt8) (i : Nat) (X : Hp) : Prop := ∃ Gb, BufG base bb (if i = 0 then acc else acc ++ data) Gb ∧ X = Gb ++ Hash hb (crc (if i ≤ 1 then acc else acc ++ data))
theorem st_step (base bb hb : Nat) (acc data : List UInt8) (s : Value) (C : Hp) (hr : RdS 1 s C data.length (bytesV data)) (hl : acc.length + data.length ≤ 400000) (h0 : 0 < acc.length + data.length) :
  MwStep base [.iface 53 (Pt bb 0), .iface 81 (Pt hb 0)] s C data.length (St2 base bb hb acc data) := by
 intro i hi
 match i, hi with
 | 0, _ =>
  refine ⟨_, _, _, rfl, invBW, ?_⟩
  rintro G ⟨Gb, hG, rfl⟩
  rw [if_pos rfl] at hG
  refine fw_perm (F := Hash hb (crc acc)) ((bufWr base bb).run acc Gb s C data hG hr hl h0) ?_ ?_
  ·simpa using mid1 [] Gb (Hash hb (crc acc)) C
  ·rintro v Hs ⟨G', rfl, rfl, hG'⟩
   exact ⟨_, ⟨_, rfl, rfl, G', hG', rfl⟩, by simpa using (mid1 [] G' (Hash hb (crc acc)) C).symm⟩
 | 1, _ =>
  refine ⟨_, _, _, rfl, invCW, ?_⟩
  rintro G ⟨Gb, hG, rfl⟩
  rw [if_neg (by decide)] at hG
  have hh : crc (if (1 : Nat) ≤ 1 then acc else acc ++ data) = crc acc := rfl
  rw [hh]
  refine fw_perm (F := Gb) (crcWrite base hb acc s C data hr (by omega)) ?_ ?_
  ·simpa using mid1 Gb (Hash hb (crc acc)) [] C
  ·rintro v Hs ⟨rfl, rfl⟩
   exact ⟨_, ⟨_, rfl, rfl, Gb, hG, rfl⟩, by simpa using (mid1 Gb (Hash hb (crc (acc ++ data))) [] C).symm⟩
theorem mwWr (base mb : Nat) (u : Value) (Ws : Hp) (bb hb : Nat) (hw : RdS 1 u Ws 2 [.iface 53 (Pt bb 0), .iface 81 (Pt hb 0)]) : Wr base 110 (Pt mb 0) 126 (MwG base mb u Ws bb hb) := by
 refine ⟨invMW, nokMW _, ?_⟩
 rintro acc G s C data ⟨Gb, hG, rfl⟩ hr hl h0
 have h := mwWrite base mb u Ws [.iface 53 (Pt bb 0), .iface 81 (Pt hb 0)] hw (by simp) s C data hr (by omega) (St2 base bb hb acc data) (st_step base bb hb acc data s C hr hl h0) (Gb ++ Hash hb (crc acc)) ⟨Gb, hG, rfl⟩
 refine fw_perm (F := []) h ?_ ?_
 ·simp
 ·rintro v Hs ⟨G2, rfl, rfl, G', hG', rfl⟩
  exact ⟨_, ⟨_, rfl, rfl, G', hG', rfl⟩, by simp⟩
theorem mwSum (base mb : Nat) (u : Value) (Ws : Hp) (bb hb : Nat) (acc : List UInt8) (G : Hp) (h : MwG base mb u Ws bb hb acc G) : FnR Tryz.prog 29 [Pt hb 0] G (U32 (crc acc)) := by
 obtain ⟨Gb, _, rfl⟩ := h
 exact (sum32 hb (crc acc)).wide (List.perm_append_comm)
/-! ### Buffers as groups -/
theorem bufReset (base bb : Nat) (acc : List UInt8) (G : Hp) (h : BufG base bb acc G) : FnW Tryz.prog 23 [Pt bb 0] base [G] (fun w Hs => ∃ G', w = .tuple #[] ∧ Hs = [G'] ∧ BufG base bb [] G') := by
 obtain ⟨v, lr, A, rfl, hb⟩ := h
 rcases hb with ⟨rfl, rfl, rfl⟩ | ⟨B, cap, L, rfl, rfl, hB, hL, hc, hc0, hm, ht⟩
 ·refine fw_perm (F := []) (reset0 base bb lr 0) (by simp) ?_
  rintro v Hs ⟨rfl, rfl⟩
  exact ⟨_, ⟨_, rfl, rfl, _, 0, [], rfl, .inl ⟨rfl, rfl, rfl⟩⟩, by simp⟩
 ·refine fw_perm (F := Bf B 5 L) (reset1 base bb lr 0 B acc.length cap hc hc0) (by simp) ?_
  rintro v Hs ⟨rfl, rfl⟩
  exact ⟨_, ⟨_, rfl, rfl, _, 0, _, rfl, .inr ⟨B, cap, L, rfl, rfl, hB, hL, Nat.zero_le _, hc0, hm, rfl⟩⟩, by simp⟩
theorem bufLenG (base bb : Nat) (acc : List UInt8) (G : Hp) (h : BufG base bb acc G) (hl : acc.length ≤ 1000000) : FnR Tryz.prog 26 [Pt bb 0] G (I (acc.length : Int)) := by
 obtain ⟨v, lr, A, rfl, hb⟩ := h
 rcases hb with ⟨rfl, rfl, rfl⟩ | ⟨B, cap, L, rfl, rfl, hB, hL, hc, hc0, hm, ht⟩
 ·exact (bufLen bb 0 0 none lr (by omega)).wide (List.Perm.refl _)
 ·exact (bufLen bb acc.length cap (some ⟨B, 0, none⟩) lr (by omega)).wide (List.Perm.refl _)
theorem bytesG (base bb : Nat) (acc : List UInt8) (G : Hp) (h : BufG base bb acc G) : ∃ v, FnR Tryz.prog 18 [Pt bb 0] G v ∧ RdS 1 v G acc.length (bytesV acc) := by
 obtain ⟨v, lr, A, rfl, hb⟩ := h
 rcases hb with ⟨rfl, rfl, rfl⟩ | ⟨B, cap, L, rfl, rfl, hB, hL, hc, hc0, hm, ht⟩
 ·exact ⟨_, (bufBytes0 bb lr).wide (List.Perm.refl _), rfl, .inl ⟨rfl, _, _, rfl⟩⟩
 ·refine ⟨_, (bufBytes bb B acc.length cap lr hc hc0).wide (List.Perm.refl _), ?_⟩
  have h1 : RdS 1 (Sl B 0 acc.length cap) (Bf B 5 L) acc.length (bytesV acc) := by have := Sl.rd (b := B) (off := 0) (n := acc.length) (c := cap) (e := 5) (l := L) (by omega) hc; rw [List.drop_zero, ht] at this; exact this
  exact h1.weaken fun x hx => List.mem_append_right _ hx
theorem copyG (base : Nat) (k : TypeId) (r : Value) (f : FuncId) (Wt : List UInt8 → Hp → Prop) (hW : Wr base k r f Wt) (acc0 : List UInt8) (G : Hp) (hG : Wt acc0 G) (bb : Nat) (acc : List UInt8) (B : Hp) (hB : BufG base bb acc B) (ha : 0 < acc.length) (hal : acc0.length + acc.length ≤ 400000) :
  FnW Tryz.prog 28 [.iface k r, .iface 53 (Pt bb 0)] base [B, G] (fun w Hs => ∃ B' G', w = .tuple #[I (acc.length : Int), .nilIface] ∧ Hs = [B', G'] ∧ BufG base bb [] B' ∧ Wt (acc0 ++ acc) G') := by
 obtain ⟨v, lr, A, rfl, hb⟩ := hB
 rcases hb with ⟨rfl, rfl, rfl⟩ | ⟨B, cap, L, rfl, rfl, hB, hL, hc, hc0, hm, ht⟩
 ·cases ha
 ·refine fw_perm (F := []) (copy_ base k r f Wt hW acc0 G hG bb B cap lr L acc hB hL hc hc0 hm ht ha hal) (by simp) ?_
  rintro v Hs ⟨G2, rfl, rfl, hG2⟩
  exact ⟨_, ⟨_, _, rfl, rfl, ⟨_, 0, _, rfl, .inr ⟨B, cap, L, rfl, rfl, hB, hL, Nat.zero_le _, hc0, hm, rfl⟩⟩, hG2⟩, by simp⟩
end EL
end Go.Proofs.YtinkaobaboffcaaGreatDoor
/- The encoder. -/
namespace Go.Proofs.YtinkaobaboffcaaGreatDoor
open Go Go.RowKit V EA EB EC ED EE EF EG EH EI EJ EK EL
set_option linter.unusedSimpArgs false
set_option linter.unusedVariables false
set_option maxRecDepth 10000
namespace EM
theorem call23 : Callable Tryz.prog 23 := ⟨_, Tryz.func23, rfl, by kernel_rfl⟩
theorem call24 : Callable Tryz.prog 24 := ⟨_, Tryz.func24, rfl, by kernel_rfl⟩
theorem call25 : Callable Tryz.prog 25 := ⟨_, Tryz.func25, rfl, by kernel_rfl⟩
theorem call26 : Callable Tryz.prog 26 := ⟨_, Tryz.func26, rfl, by kernel_rfl⟩
theorem call27 : Callable Tryz.prog 27 := ⟨_, Tryz.func27, rfl, by kernel_rfl⟩
theorem call28 : Callable Tryz.prog 28 := ⟨_, Tryz.func28, rfl, by kernel_rfl⟩
theorem call29 : Callable Tryz.prog 29 := ⟨_, Tryz.func29, rfl, by kernel_rfl⟩
theorem call30 : Callable Tryz.prog 30 := ⟨_, Tryz.func30, rfl, by kernel_rfl⟩
theorem flat31 : Flat Tryz.prog 31 := ⟨_, Tryz.underlying31, by simp⟩
theorem flat53 : Flat Tryz.prog 53 := ⟨_, Tryz.underlying53, by simp⟩
theorem flat55 : Flat Tryz.prog 55 := ⟨_, Tryz.underlying55, by simp⟩
theorem ty20 : Ty Tryz.prog 20 .nilIface 1 16 := ty_of (by kernel_rfl)
theorem ty31 : Ty Tryz.prog 31 (.slice none 0 0) 1 24 := ty_of (by kernel_rfl)
theorem ty53 : Ty Tryz.prog 53 (.pointer none) 1 8 := ty_of (by kernel_rfl)
theorem ty55 : Ty Tryz.prog 55 (.slice none 0 0) 1 24 := ty_of (by kernel_rfl)
theorem ty79 : Ty Tryz.prog 79 .nilIface 1 16 := ty_of (by kernel_rfl)
theorem ty84 : Ty Tryz.prog 84 (.agg #[(.int .u32 0)]) 1 4 := ty_of (by kernel_rfl)
theorem conc53 : Conc Tryz.prog 53 := ⟨_, Tryz.underlying53, by simp⟩
theorem conc81 : Conc Tryz.prog 81 := ⟨_, Tryz.underlying81, by simp⟩
theorem conc82 : Conc Tryz.prog 82 := ⟨_, Tryz.underlying82, by simp⟩
theorem str84 : Str Tryz.prog 84 #[(0, 1)] := ⟨_, Tryz.underlying84, fun w => by kernel_rfl⟩
theorem fld58_0 : Fld Tryz.prog 58 0 0 55 := fld_of Tryz.underlying58 rfl rfl rfl ty55 (by decide)
theorem fld58_1 : Fld Tryz.prog 58 1 1 31 := fld_of Tryz.underlying58 rfl rfl rfl ty31 (by decide)
theorem fld77_0 : Fld Tryz.prog 77 0 0 53 := fld_of Tryz.underlying77 rfl rfl rfl ty53 (by decide)
theorem fld77_1 : Fld Tryz.prog 77 1 1 53 := fld_of Tryz.underlying77 rfl rfl rfl ty53 (by decide)
theorem hdR_split {base bb : Nat} {l : List HV} {acc : List UInt8} {M Z : Hp} {w : Value} {Hs : List Hp} (h : HdR base bb l acc M Z w Hs) : ∃ G' acc', Hs = [G', M, Z] ∧ BufG base bb acc' G' ∧ (w = .nilIface ∨ ∃ k u, w = .iface k u) ∧ (nilI w = true → l.any badH = false ∧ BufG base bb (acc ++ hdrs l) G') ∧ (nilI w = false → l.any badH = true ∧ ∃ k e, w = .iface k e) := by
 obtain ⟨G', acc', rfl, hB, h⟩ := h
 refine ⟨G', acc', rfl, hB, ?_⟩
 cases hb : l.any badH with
 | true => rw [hb] at h; obtain ⟨k, e, rfl⟩ := h; exact ⟨(.inr ⟨_, _, rfl⟩), (fun h => nomatch h), (fun _ => ⟨rfl, _, _, rfl⟩)⟩
 | false => rw [hb] at h; obtain ⟨rfl, rfl⟩ := h; exact ⟨(.inl rfl), (fun _ => ⟨rfl, hB⟩), (fun h => nomatch h)⟩
theorem app_nil {a b : List UInt8} (h : b = []) : a ++ b = a := by rw [h, List.append_nil]
theorem mid2 (W G F : Hp) : ((W ++ G) ++ F).Perm (G ++ (W ++ F)) := by simpa using mid1 W G F []
def pre12 (hl pl : Nat) : List UInt8 := pre8 hl pl ++ crcB (pre8 hl pl)
theorem pre12_len (hl pl : Nat) : (pre12 hl pl).length = 12 := by unfold pre12 pre8 crcB; simp [be_len]
def msg0 (l : List HV) (data : List UInt8) : List UInt8 := pre12 (hdrs l).length data.length ++ hdrs l ++ data
def msgB (l : List HV) (data : List UInt8) : List UInt8 := msg0 l data ++ crcB (msg0 l data)
abbrev EncB (eb b1 b2 : Nat) : Hp := [(eb, .cells #[Pt b1 0, Pt b2 0] 77 (0, 0))]
def MsgR (base eb b1 b2 ob : Nat) (l : List HV) (data acc : List UInt8) (M Z Pg : Hp) (w : Value) (Hs : List Hp) : Prop :=
 ∃ B1 B2 O c1 c2 c3, Hs = [EncB eb b1 b2, B1, B2, O, M, Z, Pg] ∧ BufG base b1 c1 B1 ∧ BufG base b2 c2 B2 ∧ BufG base ob c3 O ∧ if l.any badH then ∃ k e, w = .iface k e else w = .nilIface ∧ c3 = acc ++ msgB l data
theorem encode (base eb b1 b2 ob : Nat) (a1 a2 acc0 : List UInt8) (B1 B2 O : Hp) (h1 : BufG base b1 a1 B1) (h2 : BufG base b2 a2 B2) (hO : BufG base ob acc0 O) (vh : Value) (M Z : Hp) (l : List HV) (ps : List PV) (hr : RdS 2 vh M ps.length (recsV PV.row ps)) (hp : Pair l ps Z) (hok : okH l) (hn : l.length ≤ 1000) (hsz : szL l ≤ 100000) (vp : Value) (Pg : Hp) (data : List UInt8) (hrp : RdS 1 vp Pg data.length (bytesV data)) (hpl : data.length ≤ 50000) (hal : acc0.length ≤ 100000) : FnW Tryz.prog 16 [Pt eb 0, .iface 53 (Pt ob 0), .agg #[vh, vp]] base [EncB eb b1 b2, B1, B2, O, M, Z, Pg] (MsgR base eb b1 b2 ob l data acc0 M Z Pg) := by
 have hdl : (hdrs l).length ≤ szL l := by have := hdrs_len hok l.length (Nat.le_refl _); rw [List.take_length] at this; exact this
 have h12 := pre12_len (hdrs l).length data.length
 refine FnW.enter (n := 113) Tryz.func16 rfl rfl fun w0 R0 hbase => ?_
 subst hbase
 show WC _ _ _ _ _ _ _ ([EncB eb b1 b2, B1, B2, O, M, Z, Pg, R0])
 refine WC.sub (fr' := [(0, _), (1, _), (2, _)]) ?_ ⟨rfl, rfl, rfl, trivial⟩
 refine WC.seq (WC.region ?_)
 refine WL.box rfl rfl rfl fun xb hxb => ?_
 refine WL.q (oq_assign rfl) rfl rfl rfl ?_
 refine WL.nil (WE.then_normal (WC.sub (fr' := [(0, _), (1, _), (5, _)]) ?_ ⟨rfl, rfl, rfl, trivial⟩))
 refine WC.seq (WC.region ?_)
 refine WL.q (oq_move rfl) rfl rfl rfl ?_
 refine WL.q (oq_nilCheck rfl) rfl rfl rfl ?_
 refine WL.q (oq_fieldAddr fld77_0 rfl) rfl rfl rfl ?_
 refine WL.q (oq_load flat53 rfl (.tail _ (.head _)) (List.mem_singleton.2 rfl) rfl) rfl rfl rfl ?_
 refine WL.f2 ?_
 refine WL.callW1 (bufReset _ b1 a1 B1 h1) call23 rfl rfl rfl fun v1_4 Hs1_4 hR1_4 => ?_
 obtain ⟨B1_, rfl, rfl, h1_⟩ := hR1_4
 refine WL.to1 ?_
 refine WL.nil (WE.then_normal (WC.sub (fr' := [(0, _), (1, _), (5, _)]) ?_ ⟨rfl, rfl, rfl, trivial⟩))
 refine WC.seq (WC.region ?_)
 refine WL.q (oq_move rfl) rfl rfl rfl ?_
 refine WL.q (oq_nilCheck rfl) rfl rfl rfl ?_
 refine WL.q (oq_fieldAddr fld77_1 rfl) rfl rfl rfl ?_
 refine WL.q (oq_load flat53 rfl (.tail _ (.tail _ (.head _))) (List.mem_singleton.2 rfl) rfl) rfl rfl rfl ?_
 refine WL.f3 ?_
 refine WL.callW1 (bufReset _ b2 a2 B2 h2) call23 rfl rfl rfl fun v2_4 Hs2_4 hR2_4 => ?_
 obtain ⟨B2_, rfl, rfl, h2_⟩ := hR2_4
 refine WL.to1 ?_
 refine WL.nil (WE.then_normal (WC.sub (fr' := [(0, _), (1, _), (5, _)]) ?_ ⟨rfl, rfl, rfl, trivial⟩))
 refine WC.seq (WC.region ?_)
 refine WL.q (oq_move rfl) rfl rfl rfl ?_
 refine WL.q (oq_nilCheck rfl) rfl rfl rfl ?_
 refine WL.q (oq_fieldAddr fld77_1 rfl) rfl rfl rfl ?_
 refine WL.q (oq_load flat53 rfl (.tail _ (.tail _ (.tail _ (.head _)))) (List.mem_singleton.2 rfl) rfl) rfl rfl rfl ?_
 refine WL.q (oq_makeI conc53 rfl) rfl rfl rfl ?_
 refine WL.q (oq_assign rfl) rfl rfl rfl ?_
 refine WL.nil (WE.then_normal (WC.sub (fr' := [(0, _), (1, _), (5, _), (7, _)]) ?_ ⟨rfl, rfl, rfl, rfl, trivial⟩))
 refine WC.seq (WC.seq ?_)
 refine WC.tailM (pl := []) (ql := [_, _, _, _, _, _, _]) (tl := [_, _]) [] [0, 1, 2, 3, 4, 5, 6] 7 [8] (by kernel_rfl) (by kernel_rfl) (by kernel_rfl) (by kernel_rfl) (by kernel_rfl) (by kernel_rfl) (by decide) rfl rfl rfl (by decide) (by repeat (first | with_reducible exact QOk.body | with_reducible apply QOk.then | with_reducible apply QOk.block | exact QOk.body | apply QOk.then | apply QOk.block)) ?_
 refine WM.nil ?_
 refine WY.q (oq_move rfl) rfl rfl rfl ?_
 refine WY.q (oq_nilCheck rfl) rfl rfl rfl ?_
 refine WY.q (oq_fieldAddr fld77_0 rfl) rfl rfl rfl ?_
 refine WY.q (oq_load flat53 rfl (.tail _ (.tail _ (.tail _ (.head _)))) (List.mem_singleton.2 rfl) rfl) rfl rfl rfl ?_
 refine WY.q (oq_makeI conc53 rfl) rfl rfl rfl ?_
 refine WY.q (oq_fieldAddr fld58_0 rfl) rfl rfl rfl ?_
 refine WY.q (oq_load flat55 rfl (.tail _ (.tail _ (.head _))) (List.mem_singleton.2 rfl) rfl) rfl rfl rfl ?_
 refine WY.nil ?_
 refine WL.f6 ?_
 refine WL.f6 ?_
 refine WL.f3 ?_
 refine WL.callW3 (encHeaders _ b1 [] B1_ h1_ vh M Z l ps hr hp hok hn (by rw [List.length_nil]; omega)) call24 rfl rfl rfl fun v4_7 Hs4_7 hR4_7 => ?_
 obtain ⟨X1, c1, rfl, hc1, hei, he0, he1⟩ := hdR_split hR4_7
 refine WL.to3 ?_
 refine WL.q (oq_assign rfl) rfl rfl rfl ?_
 refine WL.nil (WE.then_normal (WC.sub (fr' := [(0, _), (1, _), (5, _), (6, _), (7, _)]) ?_ ⟨rfl, rfl, rfl, rfl, rfl, trivial⟩))
 refine WC.seq (WC.region ?_)
 refine WL.q (oq_move rfl) rfl rfl rfl ?_
 refine WL.q (oq_ineq Tryz.underlying49 rfl (hei)) rfl rfl rfl ?_
 refine WL.nil (WE.then_normal (WC.sub (fr' := [(0, _), (1, _), (5, _), (6, _), (7, _), (38, _)]) ?_ ⟨rfl, rfl, rfl, rfl, rfl, rfl, trivial⟩))
 refine WC.cond rfl (fun q5 => ?_) (fun q5 => ?_)
 ·
  try simp only [Z1, Z2, Z3, Z4, Z5, Z6, Z7, Z8, Z9, Z0] at q5
  refine WC.seq (WC.region ?_)
  refine WL.q (oq_move rfl) rfl rfl rfl ?_
  refine WL.q (oq_assign rfl) rfl rfl rfl ?_
  refine WL.nil (WE.then_normal (WC.sub (fr' := [(6, _)]) ?_ ⟨rfl, trivial⟩))
  refine WC.ret (WE.then_ret ?_)
  refine WE.f4 ?_
  refine WE.lose hxb ?_
  refine WE.f7 ?_
  refine WE.f7 ?_
  refine WE.f4 ?_
  refine WE.f4 ?_
  refine WE.f7 ?_
  refine WE.f6 ?_
  refine WE.f6 ?_
  refine WE.f7 ?_
  refine WE.endW7 (.inl rfl) (res1 Tryz.results16 rfl) ?_
  obtain ⟨hb, k9, e9, hv⟩ := he1 (by simpa using q5)
  exact ⟨_, _, _, _, _, _, rfl, hc1, h2_, hO, by rw [if_pos hb]; exact ⟨_, _, hv⟩⟩
 ·
  try simp only [Z1, Z2, Z3, Z4, Z5, Z6, Z7, Z8, Z9, Z0] at q5
  refine WC.skip (WE.then_normal (WC.sub (fr' := [(0, _), (1, _), (5, _), (7, _)]) ?_ ⟨rfl, rfl, rfl, rfl, trivial⟩))
  refine WC.seq ?_
  obtain ⟨hnb, hX1⟩ := he0 (by simpa using q5)
  rw [List.nil_append] at hX1
  refine WC.region ?_
  refine WL.q (oq_build #[_] str84 ty84 rfl rfl) rfl rfl rfl ?_
  refine WL.box rfl rfl rfl fun hb hhb => ?_
  refine WL.q (oq_assign rfl) rfl rfl rfl ?_
  refine WL.nil (WE.then_normal (WC.sub (fr' := [(0, _), (1, _), (5, _), (7, _), (8, _)]) ?_ ⟨rfl, rfl, rfl, rfl, rfl, trivial⟩))
  refine WC.seq (WC.region ?_)
  refine WL.q (oq_move rfl) rfl rfl rfl ?_
  refine WL.q (oq_move rfl) rfl rfl rfl ?_
  refine WL.q (oq_makeI conc81 rfl) rfl rfl rfl ?_
  refine WL.buildL Tryz.underlying109 ty79 rfl rfl (by decide) (by decide) rfl rfl rfl fun v8 A8 ho8 hne8 => ?_
  refine WL.callA (multiWriter v8 A8 [(53, Pt b2 0), (81, Pt hb 0)] ho8.rd (by simp) (by simp)) call25 rfl rfl rfl fun v8_4 N8_4 hR8_4 hN8_4 => ?_
  obtain ⟨mb, u, Ws, rfl, rfl, hwr⟩ := hR8_4
  refine WL.q (oq_assign rfl) rfl rfl rfl ?_
  refine WL.nil (WE.then_normal (WC.sub (fr' := [(0, _), (1, _), (5, _), (7, _), (8, _), (9, _)]) ?_ ⟨rfl, rfl, rfl, rfl, rfl, rfl, trivial⟩))
  refine WC.seq ?_
  refine WC.f2 ?_
  refine WC.f6 ?_
  refine WC.f2 ?_
  have hMw : MwG w0.heap.size mb u Ws b2 hb [] ((([(mb, .cells #[u] 113 (0, 0))] ++ Ws) ++ B2_) ++ Hash hb (crc [])) := ⟨_, h2_, rfl⟩
  refine WC.cat (WC.cat ?_)
  refine WC.region ?_
  refine WL.q (oq_move rfl) rfl rfl rfl ?_
  refine WL.q (oq_nilCheck rfl) rfl rfl rfl ?_
  refine WL.q (oq_fieldAddr fld77_0 rfl) rfl rfl rfl ?_
  refine WL.q (oq_load flat53 rfl (.tail _ (.tail _ (.tail _ (.tail _ (.tail _ (.tail _ (.head _))))))) (List.mem_singleton.2 rfl) rfl) rfl rfl rfl ?_
  refine WL.qc (oq_callRm (bufLenG _ b1 (hdrs l) X1 hX1 (by omega)) (.tail _ (.tail _ (.head _))) call26 rfl) rfl rfl rfl ?_
  refine WL.q (oq_conv Tryz.underlying3 Tryz.underlying82 rfl (by rw [u32_lo, u32_hi]; (first | omega | (simp only [List.length_cons, List.length_nil, List.length_append, List.length_drop, List.length_take]; omega)))) rfl rfl rfl ?_
  refine WL.q (oq_assign rfl) rfl rfl rfl ?_
  refine WL.nil (WE.then_normal (WC.sub (fr' := [(0, _), (1, _), (5, _), (7, _), (8, _), (9, _), (10, _)]) ?_ ⟨rfl, rfl, rfl, rfl, rfl, rfl, rfl, trivial⟩))
  refine WC.seq (WC.region ?_)
  refine WL.q (oq_fieldAddr fld58_1 rfl) rfl rfl rfl ?_
  refine WL.q (oq_load flat31 rfl (.tail _ (.tail _ (.tail _ (.tail _ (.tail _ (.head _)))))) (List.mem_singleton.2 rfl) rfl) rfl rfl rfl ?_
  refine WL.q (oq_len_rd hrp Tryz.underlying31 rfl) rfl rfl rfl ?_
  refine WL.q (oq_conv Tryz.underlying3 Tryz.underlying82 rfl (by rw [u32_lo, u32_hi]; (first | omega | (simp only [List.length_cons, List.length_nil, List.length_append, List.length_drop, List.length_take]; omega)))) rfl rfl rfl ?_
  refine WL.q (oq_assign rfl) rfl rfl rfl ?_
  refine WL.nil (WE.then_normal (WC.sub (fr' := [(0, _), (1, _), (5, _), (7, _), (8, _), (9, _), (10, _), (11, _)]) ?_ ⟨rfl, rfl, rfl, rfl, rfl, rfl, rfl, rfl, trivial⟩))
  refine WC.seq (WC.seq (WC.region ?_))
  refine WL.q (oq_move rfl) rfl rfl rfl ?_
  refine WL.q (oq_move rfl) rfl rfl rfl ?_
  refine WL.q (oq_move rfl) rfl rfl rfl ?_
  refine WL.q (oq_move rfl) rfl rfl rfl ?_
  refine WL.callW1 (encPrelude _ hb _ _ _ _ (mwWr _ mb u Ws b2 hb hwr) [] _ hMw (mwSum _ mb u Ws b2 hb) (hdrs l).length data.length (by omega) (by omega) (by simp)) call27 rfl rfl rfl fun v11_4 Hs11_4 hR11_4 => ?_
  obtain ⟨g2, rfl, rfl, hg2⟩ := hR11_4
  have hg2 : MwG w0.heap.size mb u Ws b2 hb (pre12 (hdrs l).length data.length) g2 := hg2
  refine WL.to1 ?_
  refine WL.q (oq_assign rfl) rfl rfl rfl ?_
  refine WL.nil (WE.then_normal (WC.sub (fr' := [(0, _), (1, _), (5, _), (6, _), (7, _), (8, _), (9, _), (10, _), (11, _)]) ?_ ⟨rfl, rfl, rfl, rfl, rfl, rfl, rfl, rfl, rfl, trivial⟩))
  refine WC.seq (WC.region ?_)
  refine WL.q (oq_move rfl) rfl rfl rfl ?_
  refine WL.q (oq_ineq Tryz.underlying49 rfl (.inl rfl)) rfl rfl rfl ?_
  refine WL.nil (WE.then_normal (WC.sub (fr' := [(0, _), (1, _), (5, _), (6, _), (7, _), (8, _), (9, _), (10, _), (11, _), (63, _)]) ?_ ⟨rfl, rfl, rfl, rfl, rfl, rfl, rfl, rfl, rfl, rfl, trivial⟩))
  refine WC.cond rfl (fun q12 => ?_) (fun q12 => ?_)
  ·
   try simp only [Z1, Z2, Z3, Z4, Z5, Z6, Z7, Z8, Z9, Z0] at q12
   first | contradiction | (exfalso; omega) | (exfalso; simp_all; done)
  ·
   try simp only [Z1, Z2, Z3, Z4, Z5, Z6, Z7, Z8, Z9, Z0] at q12
   refine WC.skip (WE.then_normal (WC.sub (fr' := [(0, _), (1, _), (5, _), (7, _), (8, _), (9, _), (10, _), (11, _)]) ?_ ⟨rfl, rfl, rfl, rfl, rfl, rfl, rfl, rfl, trivial⟩))
   refine WC.cut (ι := Hp × Hp) (fun i_ => (fun (X1 : Hp) (g : Hp) => [(0, Pt eb 0), (1, .iface 53 (Pt ob 0)), (5, Pt xb 0), (7, .iface 53 (Pt b2 0)), (8, Pt hb 0), (9, .iface 110 (Pt mb 0)), (11, .int .u32 (data.length : Int))]) i_.1 i_.2) (fun i_ => (fun (X1 : Hp) (g : Hp) => [EncB eb b1 b2, [(xb, .cells #[vh, vp] 58 (0, 0))], X1, g, O, M, Z, Pg, R0]) i_.1 i_.2) (fun i_ => (fun (X1 : Hp) (g : Hp) => BufG w0.heap.size b1 [] X1 ∧ MwG w0.heap.size mb u Ws b2 hb (pre12 (hdrs l).length data.length ++ hdrs l) g) i_.1 i_.2) ?_ ?_
   ·
    refine WC.seq (WC.region ?_)
    refine WL.q (oq_move rfl) rfl rfl rfl ?_
    refine WL.q (oq_gtr rfl rfl) rfl rfl rfl ?_
    refine WL.nil (WE.then_normal (WC.sub (fr' := [(0, _), (1, _), (5, _), (7, _), (8, _), (9, _), (11, _), (66, _)]) ?_ ⟨rfl, rfl, rfl, rfl, rfl, rfl, rfl, rfl, trivial⟩))
    refine WC.cond rfl (fun q14 => ?_) (fun q14 => ?_)
    ·
     try simp only [Z1, Z2, Z3, Z4, Z5, Z6, Z7, Z8, Z9, Z0] at q14
     refine WC.seq (WC.region ?_)
     refine WL.q (oq_move rfl) rfl rfl rfl ?_
     refine WL.q (oq_move rfl) rfl rfl rfl ?_
     refine WL.q (oq_nilCheck rfl) rfl rfl rfl ?_
     refine WL.q (oq_fieldAddr fld77_0 rfl) rfl rfl rfl ?_
     refine WL.q (oq_load flat53 rfl (.tail _ (.tail _ (.tail _ (.tail _ (.tail _ (.tail _ (.head _))))))) (List.mem_singleton.2 rfl) rfl) rfl rfl rfl ?_
     refine WL.q (oq_makeI conc53 rfl) rfl rfl rfl ?_
     refine WL.f2 ?_
     refine WL.callW2 (copyG _ _ _ _ _ (mwWr _ mb u Ws b2 hb hwr) _ g2 hg2 b1 (hdrs l) X1 hX1 (by omega) (by omega)) call28 rfl rfl rfl fun v15_6 Hs15_6 hR15_6 => ?_
     obtain ⟨X2, g3, rfl, rfl, hX2, hg3⟩ := hR15_6
     refine WL.to2 ?_
     refine WL.q (oq_move rfl) rfl rfl rfl ?_
     refine WL.q (oq_extract rfl rfl) rfl rfl rfl ?_
     refine WL.q (oq_extract rfl rfl) rfl rfl rfl ?_
     refine WL.q (oq_assign rfl) rfl rfl rfl ?_
     refine WL.nil (WE.then_normal (WC.sub (fr' := [(0, _), (1, _), (5, _), (6, _), (7, _), (8, _), (9, _), (11, _)]) ?_ ⟨rfl, rfl, rfl, rfl, rfl, rfl, rfl, rfl, trivial⟩))
     refine WC.seq (WC.region ?_)
     refine WL.q (oq_move rfl) rfl rfl rfl ?_
     refine WL.q (oq_ineq Tryz.underlying49 rfl (.inl rfl)) rfl rfl rfl ?_
     refine WL.nil (WE.then_normal (WC.sub (fr' := [(0, _), (1, _), (5, _), (6, _), (7, _), (8, _), (9, _), (11, _), (78, _)]) ?_ ⟨rfl, rfl, rfl, rfl, rfl, rfl, rfl, rfl, rfl, trivial⟩))
     refine WC.cond rfl (fun q16 => ?_) (fun q16 => ?_)
     ·
      try simp only [Z1, Z2, Z3, Z4, Z5, Z6, Z7, Z8, Z9, Z0] at q16
      first | contradiction | (exfalso; omega) | (exfalso; simp_all; done)
     ·
      try simp only [Z1, Z2, Z3, Z4, Z5, Z6, Z7, Z8, Z9, Z0] at q16
      refine WC.skip ?_
      refine WE.f2 ?_
      refine WE.forget ho8.fresh ?_
      refine WE.f8 ?_
      refine WE.f8 ?_
      refine WE.f5 ?_
      refine WE.f5 ?_
      refine WE.f8 ?_
      refine WE.f6 ?_
      refine WE.f6 ?_
      refine WE.f7 ?_
      refine WE.f8 ?_
      refine WE.meet (X2, g3) ?_ ⟨rfl, rfl, rfl, rfl, rfl, rfl, rfl, trivial⟩ (List.Perm.refl _)
      try dsimp only
      exact ⟨hX2, hg3⟩
    ·
     try simp only [Z1, Z2, Z3, Z4, Z5, Z6, Z7, Z8, Z9, Z0] at q14
     refine WC.skip ?_
     have h0 : hdrs l = [] := List.eq_nil_of_length_eq_zero (by omega)
     have hX1b : BufG w0.heap.size b1 [] X1 := by rw [h0] at hX1; exact hX1
     have hg2b : MwG w0.heap.size mb u Ws b2 hb (pre12 (hdrs l).length data.length ++ hdrs l) g2 := by rw [app_nil h0]; exact hg2
     refine WE.f1 ?_
     refine WE.forget ho8.fresh ?_
     refine WE.f8 ?_
     refine WE.f8 ?_
     refine WE.f5 ?_
     refine WE.f5 ?_
     refine WE.f8 ?_
     refine WE.f5 ?_
     refine WE.f6 ?_
     refine WE.f7 ?_
     refine WE.f8 ?_
     refine WE.meet (X1, g2) ?_ ⟨rfl, rfl, rfl, rfl, rfl, rfl, rfl, trivial⟩ (List.Perm.refl _)
     try dsimp only
     exact ⟨hX1b, hg2b⟩
   ·rintro ⟨X1, g⟩ hp
    try dsimp only at hp
    obtain ⟨hX1, hg⟩ := hp
    show WC _ _ _ _ _ _ ([(0, Pt eb 0), (1, .iface 53 (Pt ob 0)), (5, Pt xb 0), (7, .iface 53 (Pt b2 0)), (8, Pt hb 0), (9, .iface 110 (Pt mb 0)), (11, .int .u32 (data.length : Int))]) ([EncB eb b1 b2, [(xb, .cells #[vh, vp] 58 (0, 0))], X1, g, O, M, Z, Pg, R0])
    refine WC.cut (ι := Hp × Hp) (fun i_ => (fun (X1 : Hp) (g : Hp) => [(0, Pt eb 0), (1, .iface 53 (Pt ob 0)), (7, .iface 53 (Pt b2 0)), (8, Pt hb 0)]) i_.1 i_.2) (fun i_ => (fun (X1 : Hp) (g : Hp) => [EncB eb b1 b2, [(xb, .cells #[vh, vp] 58 (0, 0))], X1, g, O, M, Z, Pg, R0]) i_.1 i_.2) (fun i_ => (fun (X1 : Hp) (g : Hp) => BufG w0.heap.size b1 [] X1 ∧ MwG w0.heap.size mb u Ws b2 hb (msg0 l data) g) i_.1 i_.2) ?_ ?_
    ·
     refine WC.seq (WC.region ?_)
     refine WL.q (oq_move rfl) rfl rfl rfl ?_
     refine WL.q (oq_gtr rfl rfl) rfl rfl rfl ?_
     refine WL.nil (WE.then_normal (WC.sub (fr' := [(0, _), (1, _), (5, _), (7, _), (8, _), (9, _), (81, _)]) ?_ ⟨rfl, rfl, rfl, rfl, rfl, rfl, rfl, trivial⟩))
     refine WC.cond rfl (fun q18 => ?_) (fun q18 => ?_)
     ·
      try simp only [Z1, Z2, Z3, Z4, Z5, Z6, Z7, Z8, Z9, Z0] at q18
      refine WC.seq (WC.region ?_)
      refine WL.q (oq_move rfl) rfl rfl rfl ?_
      refine WL.q (oq_fieldAddr fld58_1 rfl) rfl rfl rfl ?_
      refine WL.q (oq_load flat31 rfl (.tail _ (.head _)) (List.mem_singleton.2 rfl) rfl) rfl rfl rfl ?_
      refine WL.f7 ?_
      refine WL.f4 ?_
      refine WL.callWE (fun a w hf => ent_inv1 invMW rfl rfl hf w) ((mwWr _ mb u Ws b2 hb hwr).run _ g vp Pg data hg hrp (by rw [List.length_append, h12]; omega) (by rw [List.length_append, h12]; omega)) rfl rfl rfl rfl fun v19_3 Hs19_3 hR19_3 => ?_
      obtain ⟨g4, rfl, rfl, hg4⟩ := hR19_3
      refine WL.app2 ?_
      refine WL.q (oq_move rfl) rfl rfl rfl ?_
      refine WL.q (oq_extract rfl rfl) rfl rfl rfl ?_
      refine WL.q (oq_extract rfl rfl) rfl rfl rfl ?_
      refine WL.q (oq_assign rfl) rfl rfl rfl ?_
      refine WL.nil (WE.then_normal (WC.sub (fr' := [(0, _), (1, _), (6, _), (7, _), (8, _)]) ?_ ⟨rfl, rfl, rfl, rfl, rfl, trivial⟩))
      refine WC.seq (WC.region ?_)
      refine WL.q (oq_move rfl) rfl rfl rfl ?_
      refine WL.q (oq_ineq Tryz.underlying49 rfl (.inl rfl)) rfl rfl rfl ?_
      refine WL.nil (WE.then_normal (WC.sub (fr' := [(0, _), (1, _), (6, _), (7, _), (8, _), (90, _)]) ?_ ⟨rfl, rfl, rfl, rfl, rfl, rfl, trivial⟩))
      refine WC.cond rfl (fun q20 => ?_) (fun q20 => ?_)
      ·
       try simp only [Z1, Z2, Z3, Z4, Z5, Z6, Z7, Z8, Z9, Z0] at q20
       first | contradiction | (exfalso; omega) | (exfalso; simp_all; done)
      ·
       try simp only [Z1, Z2, Z3, Z4, Z5, Z6, Z7, Z8, Z9, Z0] at q20
       refine WC.skip ?_
       refine WE.f8 ?_
       refine WE.f2 ?_
       refine WE.f8 ?_
       refine WE.f8 ?_
       refine WE.f8 ?_
       refine WE.f5 ?_
       refine WE.f8 ?_
       refine WE.f8 ?_
       refine WE.f8 ?_
       refine WE.meet (X1, g4) ?_ ⟨rfl, rfl, rfl, rfl, trivial⟩ (List.Perm.refl _)
       try dsimp only
       exact ⟨hX1, hg4⟩
     ·
      try simp only [Z1, Z2, Z3, Z4, Z5, Z6, Z7, Z8, Z9, Z0] at q18
      refine WC.skip ?_
      have h0 : data = [] := List.eq_nil_of_length_eq_zero (by omega)
      have hgb : MwG w0.heap.size mb u Ws b2 hb (msg0 l data) g := by unfold msg0; rw [app_nil h0]; exact hg
      refine WE.meet (X1, g) ?_ ⟨rfl, rfl, rfl, rfl, trivial⟩ (List.Perm.refl _)
      try dsimp only
      exact ⟨hX1, hgb⟩
    ·rintro ⟨X1, g⟩ hp
     try dsimp only at hp
     obtain ⟨hX1, hg⟩ := hp
     show WC _ _ _ _ _ _ ([(0, Pt eb 0), (1, .iface 53 (Pt ob 0)), (7, .iface 53 (Pt b2 0)), (8, Pt hb 0)]) ([EncB eb b1 b2, [(xb, .cells #[vh, vp] 58 (0, 0))], X1, g, O, M, Z, Pg, R0])
     refine WC.seq ?_
     have hm0 : (msg0 l data).length = 12 + (hdrs l).length + data.length := by unfold msg0; rw [List.length_append, List.length_append, h12]
     have hml : (msgB l data).length = 16 + (hdrs l).length + data.length := by unfold msgB crcB; rw [List.length_append, be_len, hm0]; omega
     refine WC.region ?_
     refine WL.q (oq_move rfl) rfl rfl rfl ?_
     refine WL.qc (oq_callRm (mwSum _ mb u Ws b2 hb (msg0 l data) g hg) (.tail _ (.tail _ (.tail _ (.head _)))) call29 rfl) rfl rfl rfl ?_
     refine WL.q (oq_assign rfl) rfl rfl rfl ?_
     refine WL.nil (WE.then_normal (WC.sub (fr' := [(0, _), (1, _), (7, _), (12, _)]) ?_ ⟨rfl, rfl, rfl, rfl, trivial⟩))
     refine WC.seq (WC.seq (WC.region ?_))
     refine WL.q (oq_move rfl) rfl rfl rfl ?_
     refine WL.q (oq_move rfl) rfl rfl rfl ?_
     refine WL.q (oq_makeI conc82 rfl) rfl rfl rfl ?_
     refine WL.buildL Tryz.underlying120 ty20 rfl rfl (by decide) (by decide) rfl rfl rfl fun v23 A23 ho23 hne23 => ?_
     refine WL.f4 ?_
     refine WL.f1 ?_
     refine WL.callW2 (zzWrite _ _ _ _ _ (midWr _ b2 ([(mb, Obj.cells #[u] 113 (0, 0))] ++ Ws) (Hash hb (crc (msg0 l data)))) (msg0 l data) g hg v23 A23 [⟨82, .u32, 4, ((crc (msg0 l data)).toNat : Int)⟩] ho23.rd (ok1 (okU _)) (by simp) (by rw [hm0]; simp; omega)) call30 rfl rfl rfl fun v23_4 Hs23_4 hR23_4 => ?_
     obtain ⟨g5, rfl, rfl, Gb, hGb, rfl⟩ := hR23_4
     rw [bytesN_1] at hGb
     have hGb : BufG w0.heap.size b2 (msgB l data) Gb := hGb
     refine WL.to2 ?_
     refine WL.q (oq_assign rfl) rfl rfl rfl ?_
     refine WL.nil (WE.then_normal (WC.sub (fr' := [(0, _), (1, _), (13, _)]) ?_ ⟨rfl, rfl, rfl, trivial⟩))
     refine WC.seq (WC.region ?_)
     refine WL.q (oq_move rfl) rfl rfl rfl ?_
     refine WL.q (oq_ineq Tryz.underlying49 rfl (.inl rfl)) rfl rfl rfl ?_
     refine WL.nil (WE.then_normal (WC.sub (fr' := [(0, _), (1, _), (13, _), (100, _)]) ?_ ⟨rfl, rfl, rfl, rfl, trivial⟩))
     refine WC.cond rfl (fun q24 => ?_) (fun q24 => ?_)
     ·
      try simp only [Z1, Z2, Z3, Z4, Z5, Z6, Z7, Z8, Z9, Z0] at q24
      first | contradiction | (exfalso; omega) | (exfalso; simp_all; done)
     ·
      try simp only [Z1, Z2, Z3, Z4, Z5, Z6, Z7, Z8, Z9, Z0] at q24
      refine WC.skip (WE.then_normal (WC.sub (fr' := [(0, _), (1, _)]) ?_ ⟨rfl, rfl, trivial⟩))
      refine WC.seq ?_
      refine WC.f1 ?_
      refine WC.reg (reg_out (mid2 _ Gb _)) ?_
      refine WC.region ?_
      refine WL.q (oq_move rfl) rfl rfl rfl ?_
      refine WL.q (oq_move rfl) rfl rfl rfl ?_
      refine WL.q (oq_nilCheck rfl) rfl rfl rfl ?_
      refine WL.q (oq_fieldAddr fld77_1 rfl) rfl rfl rfl ?_
      refine WL.q (oq_load flat53 rfl (.tail _ (.tail _ (.tail _ (.head _)))) (List.mem_singleton.2 rfl) rfl) rfl rfl rfl ?_
      refine WL.q (oq_makeI conc53 rfl) rfl rfl rfl ?_
      refine WL.f6 ?_
      refine WL.f1 ?_
      refine WL.callW2 (copyG _ _ _ _ _ (bufWr _ ob) acc0 O hO b2 (msgB l data) Gb hGb (by rw [hml]; omega) (by rw [hml]; omega)) call28 rfl rfl rfl fun v26_6 Hs26_6 hR26_6 => ?_
      obtain ⟨Y2, O2, rfl, rfl, hY2, hO2⟩ := hR26_6
      refine WL.to2 ?_
      refine WL.q (oq_move rfl) rfl rfl rfl ?_
      refine WL.q (oq_extract rfl rfl) rfl rfl rfl ?_
      refine WL.q (oq_extract rfl rfl) rfl rfl rfl ?_
      refine WL.q (oq_assign rfl) rfl rfl rfl ?_
      refine WL.nil (WE.then_normal (WC.sub (fr' := [(6, _)]) ?_ ⟨rfl, trivial⟩))
      refine WC.seq (WC.region ?_)
      refine WL.q (oq_move rfl) rfl rfl rfl ?_
      refine WL.q (oq_assign rfl) rfl rfl rfl ?_
      refine WL.nil (WE.then_normal (WC.sub (fr' := [(6, _)]) ?_ ⟨rfl, trivial⟩))
      refine WC.ret ?_
      refine WE.f2 ?_
      refine WE.forget (fresh_cat hN8_4 (fresh1 hhb)) ?_
      refine WE.f2 ?_
      refine WE.forget ho23.fresh ?_
      refine WE.f3 ?_
      refine WE.lose hxb ?_
      refine WE.f7 ?_
      refine WE.f7 ?_
      refine WE.f7 ?_
      refine WE.f7 ?_
      refine WE.f5 ?_
      refine WE.f5 ?_
      refine WE.f7 ?_
      refine WE.f7 ?_
      refine WE.endW7 (.inl rfl) (res1 Tryz.results16 rfl) ?_
      exact ⟨_, _, _, _, _, _, rfl, hX1, hY2, hO2, by rw [if_neg (by rw [hnb]; simp)]; exact ⟨rfl, rfl⟩⟩
end EM
end Go.Proofs.YtinkaobaboffcaaGreatDoor
/- A message, headers: as bytes. -/
namespace Go.Proofs.YtinkaobaboffcaaGreatDoor
open Go Go.RowKit V EA EB EC ED EE EF EG EH EI EJ EK EL EM
set_option linter.unusedSimpArgs false
set_option linter.unusedVariables false
set_option maxRecDepth 10000
namespace EN
theorem call15 : Callable Tryz.prog 15 := ⟨_, Tryz.func15, rfl, by kernel_rfl⟩
theorem call16 : Callable Tryz.prog 16 := ⟨_, Tryz.func16, rfl, by kernel_rfl⟩
theorem call17 : Callable Tryz.prog 17 := ⟨_, Tryz.func17, rfl, by kernel_rfl⟩
theorem call18 : Callable Tryz.prog 18 := ⟨_, Tryz.func18, rfl, by kernel_rfl⟩
theorem flat28 : Flat Tryz.prog 28 := ⟨_, Tryz.underlying28, by simp⟩
theorem flat31 : Flat Tryz.prog 31 := ⟨_, Tryz.underlying31, by simp⟩
theorem ty28 : Ty Tryz.prog 28 (.slice none 0 0) 1 24 := ty_of (by kernel_rfl)
theorem ty31 : Ty Tryz.prog 31 (.slice none 0 0) 1 24 := ty_of (by kernel_rfl)
theorem ty47 : Ty Tryz.prog 47 (.agg #[(.slice none 0 0), (.int .i64 0), (.int .i8 0)]) 3 40 := ty_of (by kernel_rfl)
theorem ty58 : Ty Tryz.prog 58 (.agg #[(.slice none 0 0), (.slice none 0 0)]) 2 48 := ty_of (by kernel_rfl)
theorem conc53 : Conc Tryz.prog 53 := ⟨_, Tryz.underlying53, by simp⟩
theorem str58 : Str Tryz.prog 58 #[(0, 1), (1, 1)] := ⟨_, Tryz.underlying58, fun w => by kernel_rfl⟩
theorem fld35_0 : Fld Tryz.prog 35 0 0 28 := fld_of Tryz.underlying35 rfl rfl rfl ty28 (by decide)
theorem fld35_1 : Fld Tryz.prog 35 1 1 31 := fld_of Tryz.underlying35 rfl rfl rfl ty31 (by decide)
def EncG (base eb : Nat) (X : Hp) : Prop := ∃ b1 b2 B1 B2 a1 a2, X = (EncB eb b1 b2 ++ B1) ++ B2 ∧ BufG base b1 a1 B1 ∧ BufG base b2 a2 B2 ∧ base ≤ b1 ∧ base ≤ b2
theorem bufG_fresh {base bb : Nat} {acc : List UInt8} {G : Hp} (h : BufG base bb acc G) (hb : base ≤ bb) : ∀ b o, (b, o) ∈ G → base ≤ b := by
 obtain ⟨v, lr, A, rfl, h⟩ := h
 exact fresh_cat (fresh1 hb) h.fresh
theorem EncG.fresh {base eb : Nat} {X : Hp} (h : EncG base eb X) (he : base ≤ eb) : ∀ b o, (b, o) ∈ X → base ≤ b := by
 obtain ⟨b1, b2, B1, B2, a1, a2, rfl, h1, h2, g1, g2⟩ := h
 exact fresh_cat (fresh_cat (fresh1 he) (bufG_fresh h1 g1)) (bufG_fresh h2 g2)
theorem bufG_nil (base bb : Nat) (lr : Int) : BufG base bb [] (BB bb (.slice none 0 0) lr) := ⟨_, lr, [], rfl, .inl ⟨rfl, rfl, rfl⟩⟩
theorem encodeG (base eb ob : Nat) (acc0 : List UInt8) (EG O : Hp) (hE : EncG base eb EG) (hO : BufG base ob acc0 O) (vh : Value) (HZ : Hp) (l : List HV) (hh : HsOk l vh HZ) (hok : okH l) (hn : l.length ≤ 1000) (hsz : szL l ≤ 100000) (vp : Value) (Pg : Hp) (data : List UInt8) (hrp : RdS 1 vp Pg data.length (bytesV data)) (hpl : data.length ≤ 50000) (hal : acc0.length ≤ 100000) :
  FnW Tryz.prog 16 [Pt eb 0, .iface 53 (Pt ob 0), .agg #[vh, vp]] base [EG, O, HZ, Pg] (fun w Hs => ∃ EG2 O2 c, Hs = [EG2, O2, HZ, Pg] ∧ EncG base eb EG2 ∧ BufG base ob c O2 ∧ (w = .nilIface ∨ ∃ k u, w = .iface k u) ∧ (nilI w = true → l.any badH = false ∧ BufG base ob (acc0 ++ msgB l data) O2) ∧ (nilI w = false → l.any badH = true)) := by
 obtain ⟨b1, b2, B1, B2, a1, a2, rfl, h1, h2, g1, g2⟩ := hE
 obtain ⟨ps, M, Z, rfl, hr, hp⟩ := hh
 refine fw_perm (F := []) (encode base eb b1 b2 ob a1 a2 acc0 B1 B2 O h1 h2 hO vh M Z l ps hr hp hok hn hsz vp Pg data hrp hpl hal) (by simp) ?_
 rintro w Hs ⟨B1', B2', O', c1, c2, c3, rfl, hb1, hb2, hO2, h⟩
 cases hb : l.any badH with
 | true =>
  rw [hb] at h
  obtain ⟨k, e, rfl⟩ := h
  exact ⟨_, ⟨(EncB eb b1 b2 ++ B1') ++ B2', O', c3, rfl, ⟨_, _, _, _, _, _, rfl, hb1, hb2, g1, g2⟩, hO2, (.inr ⟨_, _, rfl⟩), (fun h => nomatch h), (fun _ => rfl)⟩, by simp⟩
 | false =>
  rw [hb] at h
  obtain ⟨rfl, rfl⟩ := h
  exact ⟨_, ⟨(EncB eb b1 b2 ++ B1') ++ B2', O', _, rfl, ⟨_, _, _, _, _, _, rfl, hb1, hb2, g1, g2⟩, hO2, (.inl rfl), (fun _ => ⟨rfl, hO2⟩), (fun h => nomatch h)⟩, by simp⟩
def BytesR (bad : Bool) (l : List UInt8) (w : Value) (N : Hp) : Prop := ∃ sv, w = .tuple #[sv, .bool (!bad)] ∧ RdS 1 sv N (if bad then [] else l).length (bytesV (if bad then [] else l))
theorem bytesR_bad {l : List UInt8} {b : Bool} (h : b = true) : BytesR b l (.tuple #[.slice none 0 0, .bool false]) [] := by subst h; exact ⟨_, rfl, rfl, .inl ⟨rfl, _, _, rfl⟩⟩
theorem vEncode (vh : Value) (A : Hp) (l : List HV) (hr : RdS 5 vh A l.length (recsV HV.row l)) (hok : okH l) (hn : l.length ≤ 1000) (hsz : szL l ≤ 100000) (pp : Option Addr) (pc : Nat) (data : List UInt8) (hrp : RdS 1 (.slice pp data.length pc) A data.length (bytesV data)) (hpl : data.length ≤ 50000) : FnA Tryz.prog 9 [.agg #[vh, .slice pp data.length pc]] A (BytesR (l.any badH) (msgB l data)) := by
 refine FnA.enter (n := 16) Tryz.func9 rfl rfl fun w0 => ?_
 refine WC.sub (fr' := [(0, _)]) ?_ ⟨rfl, trivial⟩
 refine WC.seq (WC.region ?_)
 refine WL.box rfl rfl rfl fun xb hxb => ?_
 refine WL.q (oq_assign rfl) rfl rfl rfl ?_
 refine WL.q (oq_assign rfl) rfl rfl rfl ?_
 refine WL.nil (WE.then_normal (WC.sub (fr' := [(1, _)]) ?_ ⟨rfl, trivial⟩))
 refine WC.seq (WC.region ?_)
 refine WL.alloc ty47 rfl rfl fun ob hob => ?_
 refine WL.nil (WE.then_normal (WC.sub (fr' := [(1, _), (4, _)]) ?_ ⟨rfl, rfl, trivial⟩))
 refine WC.seq (WC.seq ?_)
 refine WC.gate 8 ([(xb, .cells #[vh, .slice pp data.length pc] 35 (0, 0))]) (by kernel_rfl) ?_
 refine WG.q 1 [] rfl (.tail _ (.head _)) (fun w0 => oq_makeI conc53 rfl) rfl rfl rfl ?_
 refine WG.q 2 [4, 3] rfl (.tail _ (.head _)) (fun w0 => oq_fieldAddr fld35_0 rfl) rfl rfl rfl ?_
 refine WG.q 3 [4] rfl (.tail _ (.head _)) (fun w0 => oq_load flat28 rfl (.head _) (List.mem_singleton.2 rfl) rfl) rfl rfl rfl ?_
 refine WG.q 5 [7, 6] rfl (.tail _ (.head _)) (fun w0 => oq_fieldAddr fld35_1 rfl) rfl rfl rfl ?_
 refine WG.q 6 [7] rfl (.tail _ (.head _)) (fun w0 => oq_load flat31 rfl (.head _) (List.mem_singleton.2 rfl) rfl) rfl rfl rfl ?_
 refine WG.step (i := 0) (by kernel_rfl) rfl ?_
 refine WL.callA0 (newEncoder) call15 rfl rfl rfl fun v2_0 N2_0 hR2_0 hN2_0 => ?_
 obtain ⟨eb, b1, b2, rfl, rfl⟩ := hR2_0
 have heb := hN2_0 eb _ (List.mem_append_left _ (List.mem_append_left _ (List.mem_singleton.2 rfl)))
 have hb1 := hN2_0 b1 _ (List.mem_append_left _ (List.mem_append_right _ (List.mem_singleton.2 rfl)))
 have hb2 := hN2_0 b2 _ (List.mem_append_right _ (List.mem_singleton.2 rfl))
 refine WL.nil ?_
 refine WE.toG (.tail _ (.tail _ (.head _))) ?_
 refine WG.step (i := 4) (by kernel_rfl) rfl ?_
 refine WL.f3 ?_
 refine WL.callA (headersFor vh A l hr hok hn) call17 rfl rfl rfl fun v2_4 N2_4 hR2_4 hN2_4 => ?_
 obtain ⟨ps0, M0, Z0, hN0, hr0, hp0⟩ := hR2_4
 obtain ⟨pv, cv, rfl⟩ := hr0.shape
 have hR2_4 : HsOk l (.slice pv ps0.length cv) N2_4 := ⟨ps0, M0, Z0, hN0, hr0, hp0⟩
 refine WL.nil ?_
 refine WE.toG (.tail _ (.tail _ (.tail _ (.tail _ (.head _))))) ?_
 refine WG.q 7 [] rfl (.tail _ (.tail _ (.tail _ (.tail _ (.head _))))) (fun w0 => oq_build #[_, _] str58 ty58 rfl rfl) rfl rfl rfl ?_
 refine WG.step (i := 8) (by kernel_rfl) rfl ?_
 refine WL.f1 ?_
 refine WL.f1 ?_
 refine WL.f3 ?_
 refine WL.f3 ?_
 refine WL.callW4 (encodeG _ eb ob [] _ _ ⟨b1, b2, _, _, [], [], rfl, bufG_nil _ b1 0, bufG_nil _ b2 0, hb1, hb2⟩ (bufG_nil _ ob 0) _ _ l hR2_4 hok hn hsz (.slice pp data.length pc) A data hrp hpl (by simp)) call16 rfl rfl rfl fun v2_8 Hs2_8 hR2_8 => ?_
 obtain ⟨EG2, O2, c, rfl, hEG, hOc, hei, he0, he1⟩ := hR2_8
 refine WL.to4 ?_
 refine WL.nil ?_
 refine WE.toG0 (by kernel_rfl) ?_
 refine WG.p 9 rfl (.inl (by kernel_rfl)) (fun w0 => oq_ineq Tryz.underlying49 rfl (hei)) rfl rfl rfl ?_
 refine WG.done (by kernel_rfl) ?_
 refine WE.then_normal (WC.sub (fr' := [(4, _), (14, _)]) ?_ ⟨rfl, rfl, trivial⟩)
 refine WC.cond rfl (fun q2 => ?_) (fun q2 => ?_)
 ·
  try simp only [Z1, Z2, Z3, Z4, Z5, Z6, Z7, Z8, Z9, Z0] at q2
  refine WC.seq (WC.region ?_)
  refine WL.q (oq_assign rfl) rfl rfl rfl ?_
  refine WL.q (oq_assign rfl) rfl rfl rfl ?_
  refine WL.nil (WE.then_normal (WC.sub (fr' := [(2, _), (3, _)]) ?_ ⟨rfl, rfl, trivial⟩))
  refine WC.ret (WE.then_ret ?_)
  refine WE.forget (hEG.fresh heb) ?_
  refine WE.forget (bufG_fresh hOc hob) ?_
  refine WE.forget hN2_4 ?_
  refine WE.f1 ?_
  refine WE.lose hxb ?_
  refine WE.add0 ?_
  refine WE.endA (.inl rfl) (res2 Tryz.results9 rfl rfl) ?_ fresh0
  exact bytesR_bad (he1 (by simpa using q2))
 ·
  try simp only [Z1, Z2, Z3, Z4, Z5, Z6, Z7, Z8, Z9, Z0] at q2
  refine WC.skip (WE.then_normal (WC.sub (fr' := [(4, _)]) ?_ ⟨rfl, trivial⟩))
  refine WC.seq ?_
  obtain ⟨hnb, hO2⟩ := he0 (by simpa using q2)
  rw [List.nil_append] at hO2
  obtain ⟨bv, hbf, hbr⟩ := bytesG _ ob _ O2 hO2
  refine WC.region ?_
  refine WL.qc (oq_callRm (hbf) (.tail _ (.head _)) call18 rfl) rfl rfl rfl ?_
  refine WL.q (oq_assign rfl) rfl rfl rfl ?_
  refine WL.q (oq_assign rfl) rfl rfl rfl ?_
  refine WL.nil (WE.then_normal (WC.sub (fr' := [(2, _), (3, _)]) ?_ ⟨rfl, rfl, trivial⟩))
  refine WC.ret ?_
  refine WE.forget (hEG.fresh heb) ?_
  refine WE.f1 ?_
  refine WE.forget hN2_4 ?_
  refine WE.f2 ?_
  refine WE.lose hxb ?_
  refine WE.endA (.inl rfl) (res2 Tryz.results9 rfl rfl) ?_ ((bufG_fresh hOc hob))
  exact ⟨_, by rw [hnb]; rfl, by rw [hnb]; exact hbr⟩
end EN
end Go.Proofs.YtinkaobaboffcaaGreatDoor
/- What the guards of the law ask. -/
namespace Go.Proofs.YtinkaobaboffcaaGreatDoor
open Go Go.RowKit V EA EB EC ED EE EF EG EH EI EJ EK EL EM EN
set_option linter.unusedSimpArgs false
set_option linter.unusedVariables false
set_option maxRecDepth 10000
namespace EO
theorem flat9 : Flat Tryz.prog 9 := ⟨_, Tryz.underlying9, by simp⟩
theorem ty9 : Ty Tryz.prog 9 (S []) 1 16 := ty_of (by kernel_rfl)
theorem fld23_3 : Fld Tryz.prog 23 3 3 9 := fld_of Tryz.underlying23 rfl rfl rfl ty9 (by decide)
theorem all_get {l : List HV} {f : HV → Bool} (h : l.all f = true) {i : Nat} (hi : i < l.length) : f (l.getD i HV0) = true := by
 rw [List.all_eq_true] at h
 refine h _ ?_
 rw [List.getD_eq_getElem?_getD, List.getElem?_eq_getElem hi]; exact List.getElem_mem hi
theorem all_not {l : List HV} {f : HV → Bool} {i : Nat} (hi : i < l.length) (h : f (l.getD i HV0) = false) : l.all f = false := by
 cases hb : l.all f with
 | false => rfl
 | true => rw [all_get hb hi] at h; cases h
theorem all_snoc {l : List HV} {f : HV → Bool} {i : Nat} (hi : i < l.length) (h : (l.take i).all f = true) (hb : f (l.getD i HV0) = true) : (l.take (i + 1)).all f = true := by
 rw [take_snoc hi, List.all_append, h, List.all_cons, hb]; rfl
theorem fits6 (h : HV) : Fn0 Tryz.prog 4 [.agg #[I h.kind, I h.width, I h.int, S h.text]] (.bool (decide (h.text.length ≤ 2147483647))) := by
 refine Fn0.enter (n := 7) Tryz.func4 rfl rfl fun w0 => ?_
 refine WC.sub (fr' := [(0, _)]) ?_ ⟨rfl, trivial⟩
 refine WC.seq (WC.region ?_)
 refine WL.box rfl rfl rfl fun b0_0 hb0_0 => ?_
 refine WL.q (oq_assign rfl) rfl rfl rfl ?_
 refine WL.nil (WE.then_normal (WC.sub (fr' := [(1, _)]) ?_ ⟨rfl, trivial⟩))
 refine WC.seq (WC.seq (WC.region ?_))
 refine WL.q (oq_fieldAddr fld23_3 rfl) rfl rfl rfl ?_
 refine WL.q (oq_load flat9 rfl (.head _) (List.mem_singleton.2 rfl) rfl) rfl rfl rfl ?_
 refine WL.q (oq_len_s Tryz.underlying9 rfl) rfl rfl rfl ?_
 refine WL.q (oq_gtr rfl rfl) rfl rfl rfl ?_
 refine WL.nil (WE.then_normal (WC.sub (fr' := [(6, _)]) ?_ ⟨rfl, trivial⟩))
 refine WC.cond rfl (fun q1 => ?_) (fun q1 => ?_)
 ·
  try simp only [Z1, Z2, Z3, Z4, Z5, Z6, Z7, Z8, Z9, Z0] at q1
  refine WC.seq (WC.region ?_)
  refine WL.q (oq_assign rfl) rfl rfl rfl ?_
  refine WL.nil (WE.then_normal (WC.sub (fr' := [(2, _)]) ?_ ⟨rfl, trivial⟩))
  refine WC.ret (WE.then_ret ?_)
  refine WE.lose hb0_0 ?_
  refine WE.end0 (.inl rfl) (res1 Tryz.results4 rfl) ?_
  rw [decide_eq_false (by omega)]
 ·
  try simp only [Z1, Z2, Z3, Z4, Z5, Z6, Z7, Z8, Z9, Z0] at q1
  refine WC.skip (WE.then_normal (WC.sub (fr' := []) ?_ trivial))
  refine WC.seq (WC.region ?_)
  refine WL.q (oq_assign rfl) rfl rfl rfl ?_
  refine WL.nil (WE.then_normal (WC.sub (fr' := [(2, _)]) ?_ ⟨rfl, trivial⟩))
  refine WC.ret ?_
  refine WE.lose hb0_0 ?_
  refine WE.end0 (.inl rfl) (res1 Tryz.results4 rfl) ?_
  rw [decide_eq_true (by omega)]
end EO
end Go.Proofs.YtinkaobaboffcaaGreatDoor
/- The bytes of headers, as the reference tells them. -/
namespace Go.Proofs.YtinkaobaboffcaaGreatDoor
open Go Go.RowKit V EA EB EC ED EE EF EG EH EI EJ EK EL EM EN EO
set_option linter.unusedSimpArgs false
set_option linter.unusedVariables false
set_option maxRecDepth 10000
namespace EP
theorem bytesV_app (xs ys : List UInt8) : bytesV xs ++ bytesV ys = bytesV (xs ++ ys) := by simp [bytesV]
end EP
end Go.Proofs.YtinkaobaboffcaaGreatDoor
/- Fine headers. -/
namespace Go.Proofs.YtinkaobaboffcaaGreatDoor
open Go Go.RowKit V EA EB EC ED EE EF EG EH EI EJ EK EL EM EN EO EP EQ
set_option linter.unusedSimpArgs false
set_option linter.unusedVariables false
set_option maxRecDepth 10000
namespace ER
theorem flat2 : Flat Tryz.prog 2 := ⟨_, Tryz.underlying2, by simp⟩
theorem flat3 : Flat Tryz.prog 3 := ⟨_, Tryz.underlying3, by simp⟩
theorem flat9 : Flat Tryz.prog 9 := ⟨_, Tryz.underlying9, by simp⟩
theorem ty2 : Ty Tryz.prog 2 (.int .i64 0) 1 8 := ty_of (by kernel_rfl)
theorem ty3 : Ty Tryz.prog 3 (.int .i64 0) 1 8 := ty_of (by kernel_rfl)
theorem ty9 : Ty Tryz.prog 9 (S []) 1 16 := ty_of (by kernel_rfl)
theorem ty23 : Ty Tryz.prog 23 (.agg #[(.int .i64 0), (.int .i64 0), (.int .i64 0), (S [])]) 4 40 := ty_of (by kernel_rfl)
theorem ty27 : Ty Tryz.prog 27 (.agg #[(S []), (.int .i64 0), (.int .i64 0), (.int .i64 0), (S [])]) 5 56 := ty_of (by kernel_rfl)
theorem agg23 : Agg Tryz.prog 23 := agg_of Tryz.underlying23
theorem fld23_0 : Fld Tryz.prog 23 0 0 3 := fld_of Tryz.underlying23 rfl rfl rfl ty3 (by decide)
theorem fld23_1 : Fld Tryz.prog 23 1 1 3 := fld_of Tryz.underlying23 rfl rfl rfl ty3 (by decide)
theorem fld23_2 : Fld Tryz.prog 23 2 2 2 := fld_of Tryz.underlying23 rfl rfl rfl ty2 (by decide)
theorem fld23_3 : Fld Tryz.prog 23 3 3 9 := fld_of Tryz.underlying23 rfl rfl rfl ty9 (by decide)
theorem fld27_1 : Fld Tryz.prog 27 1 1 23 := fld_of Tryz.underlying27 rfl rfl rfl ty23 (by decide)
instance (h : HV) : Decidable (fineV h) := by unfold fineV; infer_instance
def fineB (h : HV) : Bool := decide (fineV h)
def intOk (l : List HV) : Prop := ∀ i, i < l.length → -9223372036854775808 ≤ (l.getD i HV0).int ∧ (l.getD i HV0).int ≤ 9223372036854775807 ∧ -9223372036854775808 ≤ (l.getD i HV0).width ∧ (l.getD i HV0).width ≤ 9223372036854775807
abbrev shT (w x : Int) : Int := Int.fdiv (IntKind.i64.wrap (x * 2 ^ (min (64 - w).toNat IntKind.i64.bits))) (2 ^ (min (64 - w).toNat IntKind.i64.bits))
theorem sh_law {w x : Int} (h1 : -9223372036854775808 ≤ x) (h2 : x ≤ 9223372036854775807) : (w = 8 → (shT w x = x ↔ -128 ≤ x ∧ x ≤ 127)) ∧ (w = 16 → (shT w x = x ↔ -32768 ≤ x ∧ x ≤ 32767)) ∧ (w = 32 → (shT w x = x ↔ -2147483648 ≤ x ∧ x ≤ 2147483647)) ∧ (w = 64 → shT w x = x) := by
 refine ⟨?_, ?_, ?_, ?_⟩ <;> rintro rfl <;> unfold shT <;> rw [Int.fdiv_eq_ediv_of_nonneg _ (Int.le_of_lt (Int.pow_pos (by decide)))]
 ·rw [show min (64 - (8 : Int)).toNat IntKind.i64.bits = 56 by decide]; simp only [IntKind.wrap, IntKind.signed, IntKind.bits, Bool.true_and, decide_eq_true_eq]; by_cases hc : x * 2 ^ 56 % 2 ^ 64 ≥ 2 ^ (64 - 1) <;> simp only [hc, decide_true, decide_false, Bool.false_eq_true, if_true, if_false] <;> omega
 ·rw [show min (64 - (16 : Int)).toNat IntKind.i64.bits = 48 by decide]; simp only [IntKind.wrap, IntKind.signed, IntKind.bits, Bool.true_and, decide_eq_true_eq]; by_cases hc : x * 2 ^ 48 % 2 ^ 64 ≥ 2 ^ (64 - 1) <;> simp only [hc, decide_true, decide_false, Bool.false_eq_true, if_true, if_false] <;> omega
 ·rw [show min (64 - (32 : Int)).toNat IntKind.i64.bits = 32 by decide]; simp only [IntKind.wrap, IntKind.signed, IntKind.bits, Bool.true_and, decide_eq_true_eq]; by_cases hc : x * 2 ^ 32 % 2 ^ 64 ≥ 2 ^ (64 - 1) <;> simp only [hc, decide_true, decide_false, Bool.false_eq_true, if_true, if_false] <;> omega
 ·rw [show min (64 - (64 : Int)).toNat IntKind.i64.bits = 0 by decide]; simp only [IntKind.wrap, IntKind.signed, IntKind.bits, Bool.true_and, decide_eq_true_eq]; by_cases hc : x * 2 ^ 0 % 2 ^ 64 ≥ 2 ^ (64 - 1) <;> simp only [hc, decide_true, decide_false, Bool.false_eq_true, if_true, if_false] <;> omega
theorem vFine (v : Value) (A : Hp) (l : List HV) (hr : RdS 5 v A l.length (recsV HV.row l)) (hint : intOk l) (hn : l.length ≤ 1000) : FnR Tryz.prog 5 [v] A (.bool (l.all fineB)) := by
 refine FnR.enter (n := 87) Tryz.func5 rfl rfl fun w0 => ?_
 refine WC.sub (fr' := [(0, _)]) ?_ ⟨rfl, trivial⟩
 refine WC.seq (WC.region ?_)
 refine WL.q (oq_assign rfl) rfl rfl rfl ?_
 refine WL.nil (WE.then_normal (WC.sub (fr' := [(0, _)]) ?_ ⟨rfl, trivial⟩))
 refine WC.seq (WC.seq (WC.region ?_))
 refine WL.q (oq_assign rfl) rfl rfl rfl ?_
 refine WL.nil (WE.then_normal (WC.sub (fr' := [(0, _), (3, _)]) ?_ ⟨rfl, rfl, trivial⟩))
 refine WC.block ?_
 refine WC.loop (ι := Nat) (fun (i : Nat) => [(0, v), (3, I (i : Int))]) (fun (i : Nat) => [A]) (fun (i : Nat) => i ≤ l.length ∧ (l.take i).all fineB = true) (fun (i : Nat) => l.length - i) (0) ?_ ⟨rfl, rfl, trivial⟩ (List.Perm.refl _) ?_
 ·try dsimp only
  exact ⟨by omega, rfl⟩
 ·rintro i hp
  try dsimp only at hp
  obtain ⟨hi, hall⟩ := hp
  show WC _ _ _ _ _ _ ([(0, v), (3, I (i : Int))]) ([A])
  refine WC.seq (WC.seq (WC.region ?_))
  refine WL.q (oq_move rfl) rfl rfl rfl ?_
  refine WL.q (oq_move rfl) rfl rfl rfl ?_
  refine WL.q (oq_len_rd hr Tryz.underlying28 rfl) rfl rfl rfl ?_
  refine WL.q (oq_lss rfl rfl) rfl rfl rfl ?_
  refine WL.nil (WE.then_normal (WC.sub (fr' := [(0, _), (3, _), (9, _)]) ?_ ⟨rfl, rfl, rfl, trivial⟩))
  refine WC.cond rfl (fun q2 => ?_) (fun q2 => ?_)
  ·
   try simp only [Z1, Z2, Z3, Z4, Z5, Z6, Z7, Z8, Z9, Z0] at q2
   refine WC.skip (WE.then_normal (WC.sub (fr' := [(0, _), (3, _)]) ?_ ⟨rfl, rfl, trivial⟩))
   refine WC.seq (WC.block (WC.seq ?_))
   have hlt : i < l.length := by omega
   obtain ⟨hi1, hi2, hi3, hi4⟩ := hint i hlt
   obtain ⟨hs8, hs16, hs32, hs64⟩ := sh_law (w := (l.getD i HV0).width) hi1 hi2
   simp only [shT] at hs8 hs16 hs32 hs64
   refine WC.region ?_
   refine WL.q (oq_move rfl) rfl rfl rfl ?_
   refine WL.q (oq_move rfl) rfl rfl rfl ?_
   refine WL.q (oq_ixaddr hr Tryz.underlying28 ty27 rfl rfl (by (first | omega | (simp only [List.length_cons, List.length_nil, List.length_append, List.length_drop, List.length_take]; omega)))) rfl rfl rfl ?_
   refine WL.q (oq_fldEl fld27_1 hr rfl (by (first | omega | (simp only [List.length_cons, List.length_nil, List.length_append, List.length_drop, List.length_take]; omega)))) rfl rfl rfl ?_
   refine WL.q (oq_loadFS (f := HV.row) HV0 [_, _, _, _] (fun _ => rfl) agg23 ty23 hr (.head _) rfl (by (first | omega | (simp only [List.length_cons, List.length_nil, List.length_append, List.length_drop, List.length_take]; omega))) (by first | exact Int.toNat_natCast _ | exact rfl) (by decide) rfl rfl) rfl rfl rfl ?_
   refine WL.alloc ty23 rfl rfl fun o4 ho4 => ?_
   refine WL.storeS #[_, _, _, _] ty23 rfl rfl rfl rfl (Nat.le_of_ble_eq_true rfl) rfl rfl ?_
   refine WL.nil (WE.then_normal (WC.sub (fr' := [(0, _), (3, _), (4, _)]) ?_ ⟨rfl, rfl, rfl, trivial⟩))
   refine WC.seq (WC.region ?_)
   refine WL.q (oq_fieldAddr fld23_1 rfl) rfl rfl rfl ?_
   refine WL.q (oq_load flat3 rfl (.head _) (List.mem_singleton.2 rfl) rfl) rfl rfl rfl ?_
   refine WL.q (oq_assign rfl) rfl rfl rfl ?_
   refine WL.nil (WE.then_normal (WC.sub (fr' := [(0, _), (3, _), (4, _), (5, _)]) ?_ ⟨rfl, rfl, rfl, rfl, trivial⟩))
   refine WC.seq (WC.quiet (by kernel_rfl) (by kernel_rfl) ?_)
   refine WQ.q (oq_fieldAddr fld23_0 rfl) rfl rfl rfl ?_
   refine WQ.q (oq_load flat3 rfl (.head _) (List.mem_singleton.2 rfl) rfl) rfl rfl rfl ?_
   refine WQ.q (oq_lss rfl rfl) rfl rfl rfl ?_
   refine WQ.q (oq_move rfl) rfl rfl rfl ?_
   refine WQ.split 22 rfl (fun s6_3 => ?_) (fun s6_3 => ?_)
   ·
    try simp only [Z1, Z2, Z3, Z4, Z5, Z6, Z7, Z8, Z9, Z0] at s6_3
    refine WQ.skip rfl rfl rfl ?_
    refine WQ.skip rfl rfl rfl ?_
    refine WQ.skip rfl rfl rfl ?_
    refine WQ.q (oq_pick_t rfl rfl) rfl rfl rfl ?_
    refine WQ.q (oq_move rfl) rfl rfl rfl ?_
    refine WQ.skip rfl rfl rfl ?_
    refine WQ.skip rfl rfl rfl ?_
    refine WQ.skip rfl rfl rfl ?_
    refine WQ.skip rfl rfl rfl ?_
    refine WQ.skip rfl rfl rfl ?_
    refine WQ.skip rfl rfl rfl ?_
    refine WQ.skip rfl rfl rfl ?_
    refine WQ.skip rfl rfl rfl ?_
    refine WQ.skip rfl rfl rfl ?_
    refine WQ.skip rfl rfl rfl ?_
    refine WQ.skip rfl rfl rfl ?_
    refine WQ.skip rfl rfl rfl ?_
    refine WQ.skip rfl rfl rfl ?_
    refine WQ.skip rfl rfl rfl ?_
    refine WQ.skip rfl rfl rfl ?_
    refine WQ.skip rfl rfl rfl ?_
    refine WQ.skip rfl rfl rfl ?_
    refine WQ.skip rfl rfl rfl ?_
    refine WQ.skip rfl rfl rfl ?_
    refine WQ.skip rfl rfl rfl ?_
    refine WQ.skip rfl rfl rfl ?_
    refine WQ.skip rfl rfl rfl ?_
    refine WQ.skip rfl rfl rfl ?_
    refine WQ.skip rfl rfl rfl ?_
    refine WQ.skip rfl rfl rfl ?_
    refine WQ.skip rfl rfl rfl ?_
    refine WQ.skip rfl rfl rfl ?_
    refine WQ.skip rfl rfl rfl ?_
    refine WQ.skip rfl rfl rfl ?_
    refine WQ.skip rfl rfl rfl ?_
    refine WQ.skip rfl rfl rfl ?_
    refine WQ.skip rfl rfl rfl ?_
    refine WQ.q (oq_pick_t rfl rfl) rfl rfl rfl ?_
    refine WQ.q (oq_move rfl) rfl rfl rfl ?_
    refine WQ.skip rfl rfl rfl ?_
    refine WQ.skip rfl rfl rfl ?_
    refine WQ.skip rfl rfl rfl ?_
    refine WQ.skip rfl rfl rfl ?_
    refine WQ.skip rfl rfl rfl ?_
    refine WQ.skip rfl rfl rfl ?_
    refine WQ.skip rfl rfl rfl ?_
    refine WQ.skip rfl rfl rfl ?_
    refine WQ.skip rfl rfl rfl ?_
    refine WQ.q (oq_pick_t rfl rfl) rfl rfl rfl ?_
    refine WQ.q (oq_move rfl) rfl rfl rfl ?_
    refine WQ.skip rfl rfl rfl ?_
    refine WQ.skip rfl rfl rfl ?_
    refine WQ.skip rfl rfl rfl ?_
    refine WQ.skip rfl rfl rfl ?_
    refine WQ.skip rfl rfl rfl ?_
    refine WQ.skip rfl rfl rfl ?_
    refine WQ.skip rfl rfl rfl ?_
    refine WQ.skip rfl rfl rfl ?_
    refine WQ.skip rfl rfl rfl ?_
    refine WQ.skip rfl rfl rfl ?_
    refine WQ.skip rfl rfl rfl ?_
    refine WQ.skip rfl rfl rfl ?_
    refine WQ.skip rfl rfl rfl ?_
    refine WQ.q (oq_pick_t rfl rfl) rfl rfl rfl ?_
    refine WQ.nil (WE.then_normal (WC.sub (fr' := [(0, _), (3, _), (86, _)]) ?_ ⟨rfl, rfl, rfl, trivial⟩))
    refine WC.cond_t rfl ?_
    refine WC.seq (WC.region ?_)
    refine WL.q (oq_assign rfl) rfl rfl rfl ?_
    refine WL.nil (WE.then_normal (WC.sub (fr' := [(2, _)]) ?_ ⟨rfl, trivial⟩))
    refine WC.ret (WE.block_ret (WE.then_ret (WE.then_ret (WE.block_ret (WE.then_ret ?_)))))
    refine WE.lose ho4 ?_
    refine WE.endR (.inl rfl) (res1 Tryz.results5 rfl) ?_
    exact congrArg Value.bool (all_not hlt (decide_eq_false (by unfold fineV; omega))).symm
   ·
    try simp only [Z1, Z2, Z3, Z4, Z5, Z6, Z7, Z8, Z9, Z0] at s6_3
    refine WQ.q (oq_fieldAddr fld23_0 rfl) rfl rfl rfl ?_
    refine WQ.q (oq_load flat3 rfl (.head _) (List.mem_singleton.2 rfl) rfl) rfl rfl rfl ?_
    refine WQ.q (oq_gtr rfl rfl) rfl rfl rfl ?_
    refine WQ.q (oq_pick_f rfl rfl) rfl rfl rfl ?_
    refine WQ.q (oq_move rfl) rfl rfl rfl ?_
    refine WQ.split 27 rfl (fun s6_8 => ?_) (fun s6_8 => ?_)
    ·
     try simp only [Z1, Z2, Z3, Z4, Z5, Z6, Z7, Z8, Z9, Z0] at s6_8
     refine WQ.skip rfl rfl rfl ?_
     refine WQ.skip rfl rfl rfl ?_
     refine WQ.skip rfl rfl rfl ?_
     refine WQ.skip rfl rfl rfl ?_
     refine WQ.skip rfl rfl rfl ?_
     refine WQ.skip rfl rfl rfl ?_
     refine WQ.skip rfl rfl rfl ?_
     refine WQ.skip rfl rfl rfl ?_
     refine WQ.skip rfl rfl rfl ?_
     refine WQ.skip rfl rfl rfl ?_
     refine WQ.skip rfl rfl rfl ?_
     refine WQ.skip rfl rfl rfl ?_
     refine WQ.skip rfl rfl rfl ?_
     refine WQ.skip rfl rfl rfl ?_
     refine WQ.skip rfl rfl rfl ?_
     refine WQ.skip rfl rfl rfl ?_
     refine WQ.skip rfl rfl rfl ?_
     refine WQ.skip rfl rfl rfl ?_
     refine WQ.skip rfl rfl rfl ?_
     refine WQ.skip rfl rfl rfl ?_
     refine WQ.skip rfl rfl rfl ?_
     refine WQ.skip rfl rfl rfl ?_
     refine WQ.skip rfl rfl rfl ?_
     refine WQ.skip rfl rfl rfl ?_
     refine WQ.skip rfl rfl rfl ?_
     refine WQ.skip rfl rfl rfl ?_
     refine WQ.skip rfl rfl rfl ?_
     refine WQ.skip rfl rfl rfl ?_
     refine WQ.skip rfl rfl rfl ?_
     refine WQ.skip rfl rfl rfl ?_
     refine WQ.skip rfl rfl rfl ?_
     refine WQ.skip rfl rfl rfl ?_
     refine WQ.q (oq_pick_t rfl rfl) rfl rfl rfl ?_
     refine WQ.q (oq_move rfl) rfl rfl rfl ?_
     refine WQ.skip rfl rfl rfl ?_
     refine WQ.skip rfl rfl rfl ?_
     refine WQ.skip rfl rfl rfl ?_
     refine WQ.skip rfl rfl rfl ?_
     refine WQ.skip rfl rfl rfl ?_
     refine WQ.skip rfl rfl rfl ?_
     refine WQ.skip rfl rfl rfl ?_
     refine WQ.skip rfl rfl rfl ?_
     refine WQ.skip rfl rfl rfl ?_
     refine WQ.q (oq_pick_t rfl rfl) rfl rfl rfl ?_
     refine WQ.q (oq_move rfl) rfl rfl rfl ?_
     refine WQ.skip rfl rfl rfl ?_
     refine WQ.skip rfl rfl rfl ?_
     refine WQ.skip rfl rfl rfl ?_
     refine WQ.skip rfl rfl rfl ?_
     refine WQ.skip rfl rfl rfl ?_
     refine WQ.skip rfl rfl rfl ?_
     refine WQ.skip rfl rfl rfl ?_
     refine WQ.skip rfl rfl rfl ?_
     refine WQ.skip rfl rfl rfl ?_
     refine WQ.skip rfl rfl rfl ?_
     refine WQ.skip rfl rfl rfl ?_
     refine WQ.skip rfl rfl rfl ?_
     refine WQ.skip rfl rfl rfl ?_
     refine WQ.q (oq_pick_t rfl rfl) rfl rfl rfl ?_
     refine WQ.nil (WE.then_normal (WC.sub (fr' := [(0, _), (3, _), (86, _)]) ?_ ⟨rfl, rfl, rfl, trivial⟩))
     refine WC.cond_t rfl ?_
     refine WC.seq (WC.region ?_)
     refine WL.q (oq_assign rfl) rfl rfl rfl ?_
     refine WL.nil (WE.then_normal (WC.sub (fr' := [(2, _)]) ?_ ⟨rfl, trivial⟩))
     refine WC.ret (WE.block_ret (WE.then_ret (WE.then_ret (WE.block_ret (WE.then_ret ?_)))))
     refine WE.lose ho4 ?_
     refine WE.endR (.inl rfl) (res1 Tryz.results5 rfl) ?_
     exact congrArg Value.bool (all_not hlt (decide_eq_false (by unfold fineV; omega))).symm
    ·
     try simp only [Z1, Z2, Z3, Z4, Z5, Z6, Z7, Z8, Z9, Z0] at s6_8
     refine WQ.q (oq_fieldAddr fld23_0 rfl) rfl rfl rfl ?_
     refine WQ.q (oq_load flat3 rfl (.head _) (List.mem_singleton.2 rfl) rfl) rfl rfl rfl ?_
     refine WQ.q (oq_eql rfl rfl) rfl rfl rfl ?_
     refine WQ.q (oq_move rfl) rfl rfl rfl ?_
     refine WQ.split 31 rfl (fun s6_12 => ?_) (fun s6_12 => ?_)
     ·
      try simp only [Z1, Z2, Z3, Z4, Z5, Z6, Z7, Z8, Z9, Z0] at s6_12
      refine WQ.q (oq_move rfl) rfl rfl rfl ?_
      refine WQ.q (oq_neq rfl rfl) rfl rfl rfl ?_
      refine WQ.q (oq_move rfl) rfl rfl rfl ?_
      refine WQ.split 34 rfl (fun s6_15 => ?_) (fun s6_15 => ?_)
      ·
       try simp only [Z1, Z2, Z3, Z4, Z5, Z6, Z7, Z8, Z9, Z0] at s6_15
       refine WQ.q (oq_move rfl) rfl rfl rfl ?_
       refine WQ.q (oq_neq rfl rfl) rfl rfl rfl ?_
       refine WQ.q (oq_pick_t rfl rfl) rfl rfl rfl ?_
       refine WQ.q (oq_move rfl) rfl rfl rfl ?_
       refine WQ.split 38 rfl (fun s6_19 => ?_) (fun s6_19 => ?_)
       ·
        try simp only [Z1, Z2, Z3, Z4, Z5, Z6, Z7, Z8, Z9, Z0] at s6_19
        refine WQ.q (oq_move rfl) rfl rfl rfl ?_
        refine WQ.q (oq_neq rfl rfl) rfl rfl rfl ?_
        refine WQ.q (oq_pick_t rfl rfl) rfl rfl rfl ?_
        refine WQ.q (oq_move rfl) rfl rfl rfl ?_
        refine WQ.split 42 rfl (fun s6_23 => ?_) (fun s6_23 => ?_)
        ·
         try simp only [Z1, Z2, Z3, Z4, Z5, Z6, Z7, Z8, Z9, Z0] at s6_23
         refine WQ.q (oq_move rfl) rfl rfl rfl ?_
         refine WQ.q (oq_neq rfl rfl) rfl rfl rfl ?_
         refine WQ.q (oq_pick_t rfl rfl) rfl rfl rfl ?_
         refine WQ.q (oq_move rfl) rfl rfl rfl ?_
         refine WQ.split 46 rfl (fun s6_27 => ?_) (fun s6_27 => ?_)
         ·
          try simp only [Z1, Z2, Z3, Z4, Z5, Z6, Z7, Z8, Z9, Z0] at s6_27
          refine WQ.skip rfl rfl rfl ?_
          refine WQ.skip rfl rfl rfl ?_
          refine WQ.skip rfl rfl rfl ?_
          refine WQ.skip rfl rfl rfl ?_
          refine WQ.skip rfl rfl rfl ?_
          refine WQ.skip rfl rfl rfl ?_
          refine WQ.skip rfl rfl rfl ?_
          refine WQ.skip rfl rfl rfl ?_
          refine WQ.skip rfl rfl rfl ?_
          refine WQ.skip rfl rfl rfl ?_
          refine WQ.skip rfl rfl rfl ?_
          refine WQ.q (oq_pick_t rfl rfl) rfl rfl rfl ?_
          refine WQ.q (oq_pick_t rfl rfl) rfl rfl rfl ?_
          refine WQ.q (oq_pick_f rfl rfl) rfl rfl rfl ?_
          refine WQ.q (oq_move rfl) rfl rfl rfl ?_
          refine WQ.skip rfl rfl rfl ?_
          refine WQ.skip rfl rfl rfl ?_
          refine WQ.skip rfl rfl rfl ?_
          refine WQ.skip rfl rfl rfl ?_
          refine WQ.skip rfl rfl rfl ?_
          refine WQ.skip rfl rfl rfl ?_
          refine WQ.skip rfl rfl rfl ?_
          refine WQ.skip rfl rfl rfl ?_
          refine WQ.skip rfl rfl rfl ?_
          refine WQ.q (oq_pick_t rfl rfl) rfl rfl rfl ?_
          refine WQ.q (oq_move rfl) rfl rfl rfl ?_
          refine WQ.skip rfl rfl rfl ?_
          refine WQ.skip rfl rfl rfl ?_
          refine WQ.skip rfl rfl rfl ?_
          refine WQ.skip rfl rfl rfl ?_
          refine WQ.skip rfl rfl rfl ?_
          refine WQ.skip rfl rfl rfl ?_
          refine WQ.skip rfl rfl rfl ?_
          refine WQ.skip rfl rfl rfl ?_
          refine WQ.skip rfl rfl rfl ?_
          refine WQ.skip rfl rfl rfl ?_
          refine WQ.skip rfl rfl rfl ?_
          refine WQ.skip rfl rfl rfl ?_
          refine WQ.skip rfl rfl rfl ?_
          refine WQ.q (oq_pick_t rfl rfl) rfl rfl rfl ?_
          refine WQ.nil (WE.then_normal (WC.sub (fr' := [(0, _), (3, _), (86, _)]) ?_ ⟨rfl, rfl, rfl, trivial⟩))
          refine WC.cond_t rfl ?_
          refine WC.seq (WC.region ?_)
          refine WL.q (oq_assign rfl) rfl rfl rfl ?_
          refine WL.nil (WE.then_normal (WC.sub (fr' := [(2, _)]) ?_ ⟨rfl, trivial⟩))
          refine WC.ret (WE.block_ret (WE.then_ret (WE.then_ret (WE.block_ret (WE.then_ret ?_)))))
          refine WE.lose ho4 ?_
          refine WE.endR (.inl rfl) (res1 Tryz.results5 rfl) ?_
          exact congrArg Value.bool (all_not hlt (decide_eq_false (by unfold fineV; omega))).symm
         ·
          try simp only [Z1, Z2, Z3, Z4, Z5, Z6, Z7, Z8, Z9, Z0] at s6_27
          refine WQ.q (oq_fieldAddr fld23_2 rfl) rfl rfl rfl ?_
          refine WQ.q (oq_load flat2 rfl (.head _) (List.mem_singleton.2 rfl) rfl) rfl rfl rfl ?_
          refine WQ.q (oq_move rfl) rfl rfl rfl ?_
          refine WQ.q (oq_sub rfl rfl (by rw [i64_lo, i64_hi]; (first | omega | (simp only [List.length_cons, List.length_nil, List.length_append, List.length_drop, List.length_take]; omega)))) rfl rfl rfl ?_
          refine WQ.q (oq_shl rfl rfl (by omega)) rfl rfl rfl ?_
          refine WQ.q (oq_move rfl) rfl rfl rfl ?_
          refine WQ.q (oq_sub rfl rfl (by rw [i64_lo, i64_hi]; (first | omega | (simp only [List.length_cons, List.length_nil, List.length_append, List.length_drop, List.length_take]; omega)))) rfl rfl rfl ?_
          refine WQ.q (oq_shr rfl rfl (by omega)) rfl rfl rfl ?_
          refine WQ.q (oq_fieldAddr fld23_2 rfl) rfl rfl rfl ?_
          refine WQ.q (oq_load flat2 rfl (.head _) (List.mem_singleton.2 rfl) rfl) rfl rfl rfl ?_
          refine WQ.q (oq_neq rfl rfl) rfl rfl rfl ?_
          refine WQ.q (oq_pick_f rfl rfl) rfl rfl rfl ?_
          refine WQ.q (oq_pick_t rfl rfl) rfl rfl rfl ?_
          refine WQ.q (oq_pick_f rfl rfl) rfl rfl rfl ?_
          refine WQ.q (oq_move rfl) rfl rfl rfl ?_
          refine WQ.split 61 rfl (fun s6_42 => ?_) (fun s6_42 => ?_)
          ·
           try simp only [Z1, Z2, Z3, Z4, Z5, Z6, Z7, Z8, Z9, Z0] at s6_42
           refine WQ.skip rfl rfl rfl ?_
           refine WQ.skip rfl rfl rfl ?_
           refine WQ.skip rfl rfl rfl ?_
           refine WQ.skip rfl rfl rfl ?_
           refine WQ.skip rfl rfl rfl ?_
           refine WQ.skip rfl rfl rfl ?_
           refine WQ.skip rfl rfl rfl ?_
           refine WQ.skip rfl rfl rfl ?_
           refine WQ.skip rfl rfl rfl ?_
           refine WQ.q (oq_pick_t rfl rfl) rfl rfl rfl ?_
           refine WQ.q (oq_move rfl) rfl rfl rfl ?_
           refine WQ.skip rfl rfl rfl ?_
           refine WQ.skip rfl rfl rfl ?_
           refine WQ.skip rfl rfl rfl ?_
           refine WQ.skip rfl rfl rfl ?_
           refine WQ.skip rfl rfl rfl ?_
           refine WQ.skip rfl rfl rfl ?_
           refine WQ.skip rfl rfl rfl ?_
           refine WQ.skip rfl rfl rfl ?_
           refine WQ.skip rfl rfl rfl ?_
           refine WQ.skip rfl rfl rfl ?_
           refine WQ.skip rfl rfl rfl ?_
           refine WQ.skip rfl rfl rfl ?_
           refine WQ.skip rfl rfl rfl ?_
           refine WQ.q (oq_pick_t rfl rfl) rfl rfl rfl ?_
           refine WQ.nil (WE.then_normal (WC.sub (fr' := [(0, _), (3, _), (86, _)]) ?_ ⟨rfl, rfl, rfl, trivial⟩))
           refine WC.cond_t rfl ?_
           refine WC.seq (WC.region ?_)
           refine WL.q (oq_assign rfl) rfl rfl rfl ?_
           refine WL.nil (WE.then_normal (WC.sub (fr' := [(2, _)]) ?_ ⟨rfl, trivial⟩))
           refine WC.ret (WE.block_ret (WE.then_ret (WE.then_ret (WE.block_ret (WE.then_ret ?_)))))
           refine WE.lose ho4 ?_
           refine WE.endR (.inl rfl) (res1 Tryz.results5 rfl) ?_
           exact congrArg Value.bool (all_not hlt (decide_eq_false (by unfold fineV; omega))).symm
          ·
           try simp only [Z1, Z2, Z3, Z4, Z5, Z6, Z7, Z8, Z9, Z0] at s6_42
           refine WQ.q (oq_fieldAddr fld23_0 rfl) rfl rfl rfl ?_
           refine WQ.q (oq_load flat3 rfl (.head _) (List.mem_singleton.2 rfl) rfl) rfl rfl rfl ?_
           refine WQ.q (oq_eql rfl rfl) rfl rfl rfl ?_
           refine WQ.q (oq_move rfl) rfl rfl rfl ?_
           refine WQ.split 65 rfl (fun s6_46 => ?_) (fun s6_46 => ?_)
           ·
            try simp only [Z1, Z2, Z3, Z4, Z5, Z6, Z7, Z8, Z9, Z0] at s6_46
            refine WQ.q (oq_fieldAddr fld23_3 rfl) rfl rfl rfl ?_
            refine WQ.q (oq_load flat9 rfl (.head _) (List.mem_singleton.2 rfl) rfl) rfl rfl rfl ?_
            refine WQ.q (oq_len_s Tryz.underlying9 rfl) rfl rfl rfl ?_
            refine WQ.q (oq_neq rfl rfl) rfl rfl rfl ?_
            refine WQ.q (oq_pick_t rfl rfl) rfl rfl rfl ?_
            refine WQ.q (oq_pick_f rfl rfl) rfl rfl rfl ?_
            refine WQ.q (oq_move rfl) rfl rfl rfl ?_
            refine WQ.split 72 rfl (fun s6_53 => ?_) (fun s6_53 => ?_)
            ·
             try simp only [Z1, Z2, Z3, Z4, Z5, Z6, Z7, Z8, Z9, Z0] at s6_53
             refine WQ.skip rfl rfl rfl ?_
             refine WQ.skip rfl rfl rfl ?_
             refine WQ.skip rfl rfl rfl ?_
             refine WQ.skip rfl rfl rfl ?_
             refine WQ.skip rfl rfl rfl ?_
             refine WQ.skip rfl rfl rfl ?_
             refine WQ.skip rfl rfl rfl ?_
             refine WQ.skip rfl rfl rfl ?_
             refine WQ.skip rfl rfl rfl ?_
             refine WQ.skip rfl rfl rfl ?_
             refine WQ.skip rfl rfl rfl ?_
             refine WQ.skip rfl rfl rfl ?_
             refine WQ.skip rfl rfl rfl ?_
             refine WQ.q (oq_pick_t rfl rfl) rfl rfl rfl ?_
             refine WQ.nil (WE.then_normal (WC.sub (fr' := [(0, _), (3, _), (86, _)]) ?_ ⟨rfl, rfl, rfl, trivial⟩))
             refine WC.cond_t rfl ?_
             refine WC.seq (WC.region ?_)
             refine WL.q (oq_assign rfl) rfl rfl rfl ?_
             refine WL.nil (WE.then_normal (WC.sub (fr' := [(2, _)]) ?_ ⟨rfl, trivial⟩))
             refine WC.ret (WE.block_ret (WE.then_ret (WE.then_ret (WE.block_ret (WE.then_ret ?_)))))
             refine WE.lose ho4 ?_
             refine WE.endR (.inl rfl) (res1 Tryz.results5 rfl) ?_
             exact congrArg Value.bool (all_not hlt (decide_eq_false (by unfold fineV; omega))).symm
            ·
             try simp only [Z1, Z2, Z3, Z4, Z5, Z6, Z7, Z8, Z9, Z0] at s6_53
             refine WQ.q (oq_fieldAddr fld23_0 rfl) rfl rfl rfl ?_
             refine WQ.q (oq_load flat3 rfl (.head _) (List.mem_singleton.2 rfl) rfl) rfl rfl rfl ?_
             refine WQ.q (oq_eql rfl rfl) rfl rfl rfl ?_
             refine WQ.q (oq_move rfl) rfl rfl rfl ?_
             refine WQ.split 76 rfl (fun s6_57 => ?_) (fun s6_57 => ?_)
             ·
              try simp only [Z1, Z2, Z3, Z4, Z5, Z6, Z7, Z8, Z9, Z0] at s6_57
              refine WQ.q (oq_fieldAddr fld23_2 rfl) rfl rfl rfl ?_
              refine WQ.q (oq_load flat2 rfl (.head _) (List.mem_singleton.2 rfl) rfl) rfl rfl rfl ?_
              refine WQ.q (oq_gtr rfl rfl) rfl rfl rfl ?_
              refine WQ.q (oq_move rfl) rfl rfl rfl ?_
              refine WQ.split 80 rfl (fun s6_61 => ?_) (fun s6_61 => ?_)
              ·
               try simp only [Z1, Z2, Z3, Z4, Z5, Z6, Z7, Z8, Z9, Z0] at s6_61
               refine WQ.skip rfl rfl rfl ?_
               refine WQ.skip rfl rfl rfl ?_
               refine WQ.skip rfl rfl rfl ?_
               refine WQ.q (oq_pick_t rfl rfl) rfl rfl rfl ?_
               refine WQ.q (oq_pick_t rfl rfl) rfl rfl rfl ?_
               refine WQ.q (oq_pick_f rfl rfl) rfl rfl rfl ?_
               refine WQ.nil (WE.then_normal (WC.sub (fr' := [(0, _), (3, _), (86, _)]) ?_ ⟨rfl, rfl, rfl, trivial⟩))
               refine WC.cond_t rfl ?_
               refine WC.seq (WC.region ?_)
               refine WL.q (oq_assign rfl) rfl rfl rfl ?_
               refine WL.nil (WE.then_normal (WC.sub (fr' := [(2, _)]) ?_ ⟨rfl, trivial⟩))
               refine WC.ret (WE.block_ret (WE.then_ret (WE.then_ret (WE.block_ret (WE.then_ret ?_)))))
               refine WE.lose ho4 ?_
               refine WE.endR (.inl rfl) (res1 Tryz.results5 rfl) ?_
               exact congrArg Value.bool (all_not hlt (decide_eq_false (by unfold fineV; omega))).symm
              ·
               try simp only [Z1, Z2, Z3, Z4, Z5, Z6, Z7, Z8, Z9, Z0] at s6_61
               refine WQ.q (oq_fieldAddr fld23_2 rfl) rfl rfl rfl ?_
               refine WQ.q (oq_load flat2 rfl (.head _) (List.mem_singleton.2 rfl) rfl) rfl rfl rfl ?_
               refine WQ.q (oq_lss rfl rfl) rfl rfl rfl ?_
               refine WQ.q (oq_pick_f rfl rfl) rfl rfl rfl ?_
               refine WQ.q (oq_pick_t rfl rfl) rfl rfl rfl ?_
               refine WQ.q (oq_pick_f rfl rfl) rfl rfl rfl ?_
               refine WQ.nil (WE.then_normal (WC.sub (fr' := [(0, _), (3, _), (86, _)]) ?_ ⟨rfl, rfl, rfl, trivial⟩))
               refine WC.cond rfl (fun q6 => ?_) (fun q6 => ?_)
               ·
                try simp only [Z1, Z2, Z3, Z4, Z5, Z6, Z7, Z8, Z9, Z0] at q6
                refine WC.seq (WC.region ?_)
                refine WL.q (oq_assign rfl) rfl rfl rfl ?_
                refine WL.nil (WE.then_normal (WC.sub (fr' := [(2, _)]) ?_ ⟨rfl, trivial⟩))
                refine WC.ret (WE.block_ret (WE.then_ret (WE.then_ret (WE.block_ret (WE.then_ret ?_)))))
                refine WE.lose ho4 ?_
                refine WE.endR (.inl rfl) (res1 Tryz.results5 rfl) ?_
                exact congrArg Value.bool (all_not hlt (decide_eq_false (by unfold fineV; omega))).symm
               ·
                try simp only [Z1, Z2, Z3, Z4, Z5, Z6, Z7, Z8, Z9, Z0] at q6
                refine WC.skip (WE.block_normal (WE.then_normal (WC.sub (fr' := [(0, _), (3, _)]) ?_ ⟨rfl, rfl, trivial⟩)))
                refine WC.region ?_
                refine WL.q (oq_move rfl) rfl rfl rfl ?_
                refine WL.q (oq_add rfl rfl (by rw [i64_lo, i64_hi]; (first | omega | (simp only [List.length_cons, List.length_nil, List.length_append, List.length_drop, List.length_take]; omega)))) rfl rfl rfl ?_
                refine WL.q (oq_assign rfl) rfl rfl rfl ?_
                refine WL.nil ?_
                refine WE.lose ho4 ?_
                refine WE.again (i + 1) ?_ ?_ ⟨rfl, rfl, trivial⟩ (List.Perm.refl _)
                ·try dsimp only
                 exact ⟨by omega, all_snoc (by omega) hall (decide_eq_true (by unfold fineV; omega))⟩
                ·(try dsimp only); omega
             ·
              try simp only [Z1, Z2, Z3, Z4, Z5, Z6, Z7, Z8, Z9, Z0] at s6_57
              refine WQ.skip rfl rfl rfl ?_
              refine WQ.skip rfl rfl rfl ?_
              refine WQ.skip rfl rfl rfl ?_
              refine WQ.skip rfl rfl rfl ?_
              refine WQ.skip rfl rfl rfl ?_
              refine WQ.skip rfl rfl rfl ?_
              refine WQ.skip rfl rfl rfl ?_
              refine WQ.skip rfl rfl rfl ?_
              refine WQ.q (oq_pick_f rfl rfl) rfl rfl rfl ?_
              refine WQ.q (oq_pick_f rfl rfl) rfl rfl rfl ?_
              refine WQ.nil (WE.then_normal (WC.sub (fr' := [(0, _), (3, _), (86, _)]) ?_ ⟨rfl, rfl, rfl, trivial⟩))
              refine WC.cond_f rfl ?_
              refine WC.skip (WE.block_normal (WE.then_normal (WC.sub (fr' := [(0, _), (3, _)]) ?_ ⟨rfl, rfl, trivial⟩)))
              refine WC.region ?_
              refine WL.q (oq_move rfl) rfl rfl rfl ?_
              refine WL.q (oq_add rfl rfl (by rw [i64_lo, i64_hi]; (first | omega | (simp only [List.length_cons, List.length_nil, List.length_append, List.length_drop, List.length_take]; omega)))) rfl rfl rfl ?_
              refine WL.q (oq_assign rfl) rfl rfl rfl ?_
              refine WL.nil ?_
              refine WE.lose ho4 ?_
              refine WE.again (i + 1) ?_ ?_ ⟨rfl, rfl, trivial⟩ (List.Perm.refl _)
              ·try dsimp only
               exact ⟨by omega, all_snoc (by omega) hall (decide_eq_true (by unfold fineV; omega))⟩
              ·(try dsimp only); omega
           ·
            try simp only [Z1, Z2, Z3, Z4, Z5, Z6, Z7, Z8, Z9, Z0] at s6_46
            refine WQ.skip rfl rfl rfl ?_
            refine WQ.skip rfl rfl rfl ?_
            refine WQ.skip rfl rfl rfl ?_
            refine WQ.skip rfl rfl rfl ?_
            refine WQ.q (oq_pick_f rfl rfl) rfl rfl rfl ?_
            refine WQ.q (oq_pick_f rfl rfl) rfl rfl rfl ?_
            refine WQ.q (oq_move rfl) rfl rfl rfl ?_
            refine WQ.q (oq_fieldAddr fld23_0 rfl) rfl rfl rfl ?_
            refine WQ.q (oq_load flat3 rfl (.head _) (List.mem_singleton.2 rfl) rfl) rfl rfl rfl ?_
            refine WQ.q (oq_eql rfl rfl) rfl rfl rfl ?_
            refine WQ.q (oq_move rfl) rfl rfl rfl ?_
            refine WQ.split 76 rfl (fun s6_57 => ?_) (fun s6_57 => ?_)
            ·
             try simp only [Z1, Z2, Z3, Z4, Z5, Z6, Z7, Z8, Z9, Z0] at s6_57
             refine WQ.q (oq_fieldAddr fld23_2 rfl) rfl rfl rfl ?_
             refine WQ.q (oq_load flat2 rfl (.head _) (List.mem_singleton.2 rfl) rfl) rfl rfl rfl ?_
             refine WQ.q (oq_gtr rfl rfl) rfl rfl rfl ?_
             refine WQ.q (oq_move rfl) rfl rfl rfl ?_
             refine WQ.split 80 rfl (fun s6_61 => ?_) (fun s6_61 => ?_)
             ·
              try simp only [Z1, Z2, Z3, Z4, Z5, Z6, Z7, Z8, Z9, Z0] at s6_61
              refine WQ.skip rfl rfl rfl ?_
              refine WQ.skip rfl rfl rfl ?_
              refine WQ.skip rfl rfl rfl ?_
              refine WQ.q (oq_pick_t rfl rfl) rfl rfl rfl ?_
              refine WQ.q (oq_pick_t rfl rfl) rfl rfl rfl ?_
              refine WQ.q (oq_pick_f rfl rfl) rfl rfl rfl ?_
              refine WQ.nil (WE.then_normal (WC.sub (fr' := [(0, _), (3, _), (86, _)]) ?_ ⟨rfl, rfl, rfl, trivial⟩))
              refine WC.cond_t rfl ?_
              refine WC.seq (WC.region ?_)
              refine WL.q (oq_assign rfl) rfl rfl rfl ?_
              refine WL.nil (WE.then_normal (WC.sub (fr' := [(2, _)]) ?_ ⟨rfl, trivial⟩))
              refine WC.ret (WE.block_ret (WE.then_ret (WE.then_ret (WE.block_ret (WE.then_ret ?_)))))
              refine WE.lose ho4 ?_
              refine WE.endR (.inl rfl) (res1 Tryz.results5 rfl) ?_
              exact congrArg Value.bool (all_not hlt (decide_eq_false (by unfold fineV; omega))).symm
             ·
              try simp only [Z1, Z2, Z3, Z4, Z5, Z6, Z7, Z8, Z9, Z0] at s6_61
              refine WQ.q (oq_fieldAddr fld23_2 rfl) rfl rfl rfl ?_
              refine WQ.q (oq_load flat2 rfl (.head _) (List.mem_singleton.2 rfl) rfl) rfl rfl rfl ?_
              refine WQ.q (oq_lss rfl rfl) rfl rfl rfl ?_
              refine WQ.q (oq_pick_f rfl rfl) rfl rfl rfl ?_
              refine WQ.q (oq_pick_t rfl rfl) rfl rfl rfl ?_
              refine WQ.q (oq_pick_f rfl rfl) rfl rfl rfl ?_
              refine WQ.nil (WE.then_normal (WC.sub (fr' := [(0, _), (3, _), (86, _)]) ?_ ⟨rfl, rfl, rfl, trivial⟩))
              refine WC.cond rfl (fun q6 => ?_) (fun q6 => ?_)
              ·
               try simp only [Z1, Z2, Z3, Z4, Z5, Z6, Z7, Z8, Z9, Z0] at q6
               refine WC.seq (WC.region ?_)
               refine WL.q (oq_assign rfl) rfl rfl rfl ?_
               refine WL.nil (WE.then_normal (WC.sub (fr' := [(2, _)]) ?_ ⟨rfl, trivial⟩))
               refine WC.ret (WE.block_ret (WE.then_ret (WE.then_ret (WE.block_ret (WE.then_ret ?_)))))
               refine WE.lose ho4 ?_
               refine WE.endR (.inl rfl) (res1 Tryz.results5 rfl) ?_
               exact congrArg Value.bool (all_not hlt (decide_eq_false (by unfold fineV; omega))).symm
              ·
               try simp only [Z1, Z2, Z3, Z4, Z5, Z6, Z7, Z8, Z9, Z0] at q6
               refine WC.skip (WE.block_normal (WE.then_normal (WC.sub (fr' := [(0, _), (3, _)]) ?_ ⟨rfl, rfl, trivial⟩)))
               refine WC.region ?_
               refine WL.q (oq_move rfl) rfl rfl rfl ?_
               refine WL.q (oq_add rfl rfl (by rw [i64_lo, i64_hi]; (first | omega | (simp only [List.length_cons, List.length_nil, List.length_append, List.length_drop, List.length_take]; omega)))) rfl rfl rfl ?_
               refine WL.q (oq_assign rfl) rfl rfl rfl ?_
               refine WL.nil ?_
               refine WE.lose ho4 ?_
               refine WE.again (i + 1) ?_ ?_ ⟨rfl, rfl, trivial⟩ (List.Perm.refl _)
               ·try dsimp only
                exact ⟨by omega, all_snoc (by omega) hall (decide_eq_true (by unfold fineV; omega))⟩
               ·(try dsimp only); omega
            ·
             try simp only [Z1, Z2, Z3, Z4, Z5, Z6, Z7, Z8, Z9, Z0] at s6_57
             refine WQ.skip rfl rfl rfl ?_
             refine WQ.skip rfl rfl rfl ?_
             refine WQ.skip rfl rfl rfl ?_
             refine WQ.skip rfl rfl rfl ?_
             refine WQ.skip rfl rfl rfl ?_
             refine WQ.skip rfl rfl rfl ?_
             refine WQ.skip rfl rfl rfl ?_
             refine WQ.skip rfl rfl rfl ?_
             refine WQ.q (oq_pick_f rfl rfl) rfl rfl rfl ?_
             refine WQ.q (oq_pick_f rfl rfl) rfl rfl rfl ?_
             refine WQ.nil (WE.then_normal (WC.sub (fr' := [(0, _), (3, _), (86, _)]) ?_ ⟨rfl, rfl, rfl, trivial⟩))
             refine WC.cond_f rfl ?_
             refine WC.skip (WE.block_normal (WE.then_normal (WC.sub (fr' := [(0, _), (3, _)]) ?_ ⟨rfl, rfl, trivial⟩)))
             refine WC.region ?_
             refine WL.q (oq_move rfl) rfl rfl rfl ?_
             refine WL.q (oq_add rfl rfl (by rw [i64_lo, i64_hi]; (first | omega | (simp only [List.length_cons, List.length_nil, List.length_append, List.length_drop, List.length_take]; omega)))) rfl rfl rfl ?_
             refine WL.q (oq_assign rfl) rfl rfl rfl ?_
             refine WL.nil ?_
             refine WE.lose ho4 ?_
             refine WE.again (i + 1) ?_ ?_ ⟨rfl, rfl, trivial⟩ (List.Perm.refl _)
             ·try dsimp only
              exact ⟨by omega, all_snoc (by omega) hall (decide_eq_true (by unfold fineV; omega))⟩
             ·(try dsimp only); omega
        ·
         try simp only [Z1, Z2, Z3, Z4, Z5, Z6, Z7, Z8, Z9, Z0] at s6_23
         refine WQ.skip rfl rfl rfl ?_
         refine WQ.skip rfl rfl rfl ?_
         refine WQ.q (oq_pick_f rfl rfl) rfl rfl rfl ?_
         refine WQ.q (oq_move rfl) rfl rfl rfl ?_
         refine WQ.q (oq_fieldAddr fld23_2 rfl) rfl rfl rfl ?_
         refine WQ.q (oq_load flat2 rfl (.head _) (List.mem_singleton.2 rfl) rfl) rfl rfl rfl ?_
         refine WQ.q (oq_move rfl) rfl rfl rfl ?_
         refine WQ.q (oq_sub rfl rfl (by rw [i64_lo, i64_hi]; (first | omega | (simp only [List.length_cons, List.length_nil, List.length_append, List.length_drop, List.length_take]; omega)))) rfl rfl rfl ?_
         refine WQ.q (oq_shl rfl rfl (by omega)) rfl rfl rfl ?_
         refine WQ.q (oq_move rfl) rfl rfl rfl ?_
         refine WQ.q (oq_sub rfl rfl (by rw [i64_lo, i64_hi]; (first | omega | (simp only [List.length_cons, List.length_nil, List.length_append, List.length_drop, List.length_take]; omega)))) rfl rfl rfl ?_
         refine WQ.q (oq_shr rfl rfl (by omega)) rfl rfl rfl ?_
         refine WQ.q (oq_fieldAddr fld23_2 rfl) rfl rfl rfl ?_
         refine WQ.q (oq_load flat2 rfl (.head _) (List.mem_singleton.2 rfl) rfl) rfl rfl rfl ?_
         refine WQ.q (oq_neq rfl rfl) rfl rfl rfl ?_
         refine WQ.q (oq_pick_f rfl rfl) rfl rfl rfl ?_
         refine WQ.q (oq_pick_t rfl rfl) rfl rfl rfl ?_
         refine WQ.q (oq_pick_f rfl rfl) rfl rfl rfl ?_
         refine WQ.q (oq_move rfl) rfl rfl rfl ?_
         refine WQ.split 61 rfl (fun s6_42 => ?_) (fun s6_42 => ?_)
         ·
          try simp only [Z1, Z2, Z3, Z4, Z5, Z6, Z7, Z8, Z9, Z0] at s6_42
          refine WQ.skip rfl rfl rfl ?_
          refine WQ.skip rfl rfl rfl ?_
          refine WQ.skip rfl rfl rfl ?_
          refine WQ.skip rfl rfl rfl ?_
          refine WQ.skip rfl rfl rfl ?_
          refine WQ.skip rfl rfl rfl ?_
          refine WQ.skip rfl rfl rfl ?_
          refine WQ.skip rfl rfl rfl ?_
          refine WQ.skip rfl rfl rfl ?_
          refine WQ.q (oq_pick_t rfl rfl) rfl rfl rfl ?_
          refine WQ.q (oq_move rfl) rfl rfl rfl ?_
          refine WQ.skip rfl rfl rfl ?_
          refine WQ.skip rfl rfl rfl ?_
          refine WQ.skip rfl rfl rfl ?_
          refine WQ.skip rfl rfl rfl ?_
          refine WQ.skip rfl rfl rfl ?_
          refine WQ.skip rfl rfl rfl ?_
          refine WQ.skip rfl rfl rfl ?_
          refine WQ.skip rfl rfl rfl ?_
          refine WQ.skip rfl rfl rfl ?_
          refine WQ.skip rfl rfl rfl ?_
          refine WQ.skip rfl rfl rfl ?_
          refine WQ.skip rfl rfl rfl ?_
          refine WQ.skip rfl rfl rfl ?_
          refine WQ.q (oq_pick_t rfl rfl) rfl rfl rfl ?_
          refine WQ.nil (WE.then_normal (WC.sub (fr' := [(0, _), (3, _), (86, _)]) ?_ ⟨rfl, rfl, rfl, trivial⟩))
          refine WC.cond_t rfl ?_
          refine WC.seq (WC.region ?_)
          refine WL.q (oq_assign rfl) rfl rfl rfl ?_
          refine WL.nil (WE.then_normal (WC.sub (fr' := [(2, _)]) ?_ ⟨rfl, trivial⟩))
          refine WC.ret (WE.block_ret (WE.then_ret (WE.then_ret (WE.block_ret (WE.then_ret ?_)))))
          refine WE.lose ho4 ?_
          refine WE.endR (.inl rfl) (res1 Tryz.results5 rfl) ?_
          exact congrArg Value.bool (all_not hlt (decide_eq_false (by unfold fineV; omega))).symm
         ·
          try simp only [Z1, Z2, Z3, Z4, Z5, Z6, Z7, Z8, Z9, Z0] at s6_42
          refine WQ.q (oq_fieldAddr fld23_0 rfl) rfl rfl rfl ?_
          refine WQ.q (oq_load flat3 rfl (.head _) (List.mem_singleton.2 rfl) rfl) rfl rfl rfl ?_
          refine WQ.q (oq_eql rfl rfl) rfl rfl rfl ?_
          refine WQ.q (oq_move rfl) rfl rfl rfl ?_
          refine WQ.split 65 rfl (fun s6_46 => ?_) (fun s6_46 => ?_)
          ·
           try simp only [Z1, Z2, Z3, Z4, Z5, Z6, Z7, Z8, Z9, Z0] at s6_46
           refine WQ.q (oq_fieldAddr fld23_3 rfl) rfl rfl rfl ?_
           refine WQ.q (oq_load flat9 rfl (.head _) (List.mem_singleton.2 rfl) rfl) rfl rfl rfl ?_
           refine WQ.q (oq_len_s Tryz.underlying9 rfl) rfl rfl rfl ?_
           refine WQ.q (oq_neq rfl rfl) rfl rfl rfl ?_
           refine WQ.q (oq_pick_t rfl rfl) rfl rfl rfl ?_
           refine WQ.q (oq_pick_f rfl rfl) rfl rfl rfl ?_
           refine WQ.q (oq_move rfl) rfl rfl rfl ?_
           refine WQ.split 72 rfl (fun s6_53 => ?_) (fun s6_53 => ?_)
           ·
            try simp only [Z1, Z2, Z3, Z4, Z5, Z6, Z7, Z8, Z9, Z0] at s6_53
            refine WQ.skip rfl rfl rfl ?_
            refine WQ.skip rfl rfl rfl ?_
            refine WQ.skip rfl rfl rfl ?_
            refine WQ.skip rfl rfl rfl ?_
            refine WQ.skip rfl rfl rfl ?_
            refine WQ.skip rfl rfl rfl ?_
            refine WQ.skip rfl rfl rfl ?_
            refine WQ.skip rfl rfl rfl ?_
            refine WQ.skip rfl rfl rfl ?_
            refine WQ.skip rfl rfl rfl ?_
            refine WQ.skip rfl rfl rfl ?_
            refine WQ.skip rfl rfl rfl ?_
            refine WQ.skip rfl rfl rfl ?_
            refine WQ.q (oq_pick_t rfl rfl) rfl rfl rfl ?_
            refine WQ.nil (WE.then_normal (WC.sub (fr' := [(0, _), (3, _), (86, _)]) ?_ ⟨rfl, rfl, rfl, trivial⟩))
            refine WC.cond_t rfl ?_
            refine WC.seq (WC.region ?_)
            refine WL.q (oq_assign rfl) rfl rfl rfl ?_
            refine WL.nil (WE.then_normal (WC.sub (fr' := [(2, _)]) ?_ ⟨rfl, trivial⟩))
            refine WC.ret (WE.block_ret (WE.then_ret (WE.then_ret (WE.block_ret (WE.then_ret ?_)))))
            refine WE.lose ho4 ?_
            refine WE.endR (.inl rfl) (res1 Tryz.results5 rfl) ?_
            exact congrArg Value.bool (all_not hlt (decide_eq_false (by unfold fineV; omega))).symm
           ·
            try simp only [Z1, Z2, Z3, Z4, Z5, Z6, Z7, Z8, Z9, Z0] at s6_53
            refine WQ.q (oq_fieldAddr fld23_0 rfl) rfl rfl rfl ?_
            refine WQ.q (oq_load flat3 rfl (.head _) (List.mem_singleton.2 rfl) rfl) rfl rfl rfl ?_
            refine WQ.q (oq_eql rfl rfl) rfl rfl rfl ?_
            refine WQ.q (oq_move rfl) rfl rfl rfl ?_
            refine WQ.split 76 rfl (fun s6_57 => ?_) (fun s6_57 => ?_)
            ·
             try simp only [Z1, Z2, Z3, Z4, Z5, Z6, Z7, Z8, Z9, Z0] at s6_57
             refine WQ.q (oq_fieldAddr fld23_2 rfl) rfl rfl rfl ?_
             refine WQ.q (oq_load flat2 rfl (.head _) (List.mem_singleton.2 rfl) rfl) rfl rfl rfl ?_
             refine WQ.q (oq_gtr rfl rfl) rfl rfl rfl ?_
             refine WQ.q (oq_move rfl) rfl rfl rfl ?_
             refine WQ.split 80 rfl (fun s6_61 => ?_) (fun s6_61 => ?_)
             ·
              try simp only [Z1, Z2, Z3, Z4, Z5, Z6, Z7, Z8, Z9, Z0] at s6_61
              refine WQ.skip rfl rfl rfl ?_
              refine WQ.skip rfl rfl rfl ?_
              refine WQ.skip rfl rfl rfl ?_
              refine WQ.q (oq_pick_t rfl rfl) rfl rfl rfl ?_
              refine WQ.q (oq_pick_t rfl rfl) rfl rfl rfl ?_
              refine WQ.q (oq_pick_f rfl rfl) rfl rfl rfl ?_
              refine WQ.nil (WE.then_normal (WC.sub (fr' := [(0, _), (3, _), (86, _)]) ?_ ⟨rfl, rfl, rfl, trivial⟩))
              refine WC.cond_t rfl ?_
              refine WC.seq (WC.region ?_)
              refine WL.q (oq_assign rfl) rfl rfl rfl ?_
              refine WL.nil (WE.then_normal (WC.sub (fr' := [(2, _)]) ?_ ⟨rfl, trivial⟩))
              refine WC.ret (WE.block_ret (WE.then_ret (WE.then_ret (WE.block_ret (WE.then_ret ?_)))))
              refine WE.lose ho4 ?_
              refine WE.endR (.inl rfl) (res1 Tryz.results5 rfl) ?_
              exact congrArg Value.bool (all_not hlt (decide_eq_false (by unfold fineV; omega))).symm
             ·
              try simp only [Z1, Z2, Z3, Z4, Z5, Z6, Z7, Z8, Z9, Z0] at s6_61
              refine WQ.q (oq_fieldAddr fld23_2 rfl) rfl rfl rfl ?_
              refine WQ.q (oq_load flat2 rfl (.head _) (List.mem_singleton.2 rfl) rfl) rfl rfl rfl ?_
              refine WQ.q (oq_lss rfl rfl) rfl rfl rfl ?_
              refine WQ.q (oq_pick_f rfl rfl) rfl rfl rfl ?_
              refine WQ.q (oq_pick_t rfl rfl) rfl rfl rfl ?_
              refine WQ.q (oq_pick_f rfl rfl) rfl rfl rfl ?_
              refine WQ.nil (WE.then_normal (WC.sub (fr' := [(0, _), (3, _), (86, _)]) ?_ ⟨rfl, rfl, rfl, trivial⟩))
              refine WC.cond rfl (fun q6 => ?_) (fun q6 => ?_)
              ·
               try simp only [Z1, Z2, Z3, Z4, Z5, Z6, Z7, Z8, Z9, Z0] at q6
               refine WC.seq (WC.region ?_)
               refine WL.q (oq_assign rfl) rfl rfl rfl ?_
               refine WL.nil (WE.then_normal (WC.sub (fr' := [(2, _)]) ?_ ⟨rfl, trivial⟩))
               refine WC.ret (WE.block_ret (WE.then_ret (WE.then_ret (WE.block_ret (WE.then_ret ?_)))))
               refine WE.lose ho4 ?_
               refine WE.endR (.inl rfl) (res1 Tryz.results5 rfl) ?_
               exact congrArg Value.bool (all_not hlt (decide_eq_false (by unfold fineV; omega))).symm
              ·
               try simp only [Z1, Z2, Z3, Z4, Z5, Z6, Z7, Z8, Z9, Z0] at q6
               refine WC.skip (WE.block_normal (WE.then_normal (WC.sub (fr' := [(0, _), (3, _)]) ?_ ⟨rfl, rfl, trivial⟩)))
               refine WC.region ?_
               refine WL.q (oq_move rfl) rfl rfl rfl ?_
               refine WL.q (oq_add rfl rfl (by rw [i64_lo, i64_hi]; (first | omega | (simp only [List.length_cons, List.length_nil, List.length_append, List.length_drop, List.length_take]; omega)))) rfl rfl rfl ?_
               refine WL.q (oq_assign rfl) rfl rfl rfl ?_
               refine WL.nil ?_
               refine WE.lose ho4 ?_
               refine WE.again (i + 1) ?_ ?_ ⟨rfl, rfl, trivial⟩ (List.Perm.refl _)
               ·try dsimp only
                exact ⟨by omega, all_snoc (by omega) hall (decide_eq_true (by unfold fineV; omega))⟩
               ·(try dsimp only); omega
            ·
             try simp only [Z1, Z2, Z3, Z4, Z5, Z6, Z7, Z8, Z9, Z0] at s6_57
             refine WQ.skip rfl rfl rfl ?_
             refine WQ.skip rfl rfl rfl ?_
             refine WQ.skip rfl rfl rfl ?_
             refine WQ.skip rfl rfl rfl ?_
             refine WQ.skip rfl rfl rfl ?_
             refine WQ.skip rfl rfl rfl ?_
             refine WQ.skip rfl rfl rfl ?_
             refine WQ.skip rfl rfl rfl ?_
             refine WQ.q (oq_pick_f rfl rfl) rfl rfl rfl ?_
             refine WQ.q (oq_pick_f rfl rfl) rfl rfl rfl ?_
             refine WQ.nil (WE.then_normal (WC.sub (fr' := [(0, _), (3, _), (86, _)]) ?_ ⟨rfl, rfl, rfl, trivial⟩))
             refine WC.cond_f rfl ?_
             refine WC.skip (WE.block_normal (WE.then_normal (WC.sub (fr' := [(0, _), (3, _)]) ?_ ⟨rfl, rfl, trivial⟩)))
             refine WC.region ?_
             refine WL.q (oq_move rfl) rfl rfl rfl ?_
             refine WL.q (oq_add rfl rfl (by rw [i64_lo, i64_hi]; (first | omega | (simp only [List.length_cons, List.length_nil, List.length_append, List.length_drop, List.length_take]; omega)))) rfl rfl rfl ?_
             refine WL.q (oq_assign rfl) rfl rfl rfl ?_
             refine WL.nil ?_
             refine WE.lose ho4 ?_
             refine WE.again (i + 1) ?_ ?_ ⟨rfl, rfl, trivial⟩ (List.Perm.refl _)
             ·try dsimp only
              exact ⟨by omega, all_snoc (by omega) hall (decide_eq_true (by unfold fineV; omega))⟩
             ·(try dsimp only); omega
          ·
           try simp only [Z1, Z2, Z3, Z4, Z5, Z6, Z7, Z8, Z9, Z0] at s6_46
           refine WQ.skip rfl rfl rfl ?_
           refine WQ.skip rfl rfl rfl ?_
           refine WQ.skip rfl rfl rfl ?_
           refine WQ.skip rfl rfl rfl ?_
           refine WQ.q (oq_pick_f rfl rfl) rfl rfl rfl ?_
           refine WQ.q (oq_pick_f rfl rfl) rfl rfl rfl ?_
           refine WQ.q (oq_move rfl) rfl rfl rfl ?_
           refine WQ.q (oq_fieldAddr fld23_0 rfl) rfl rfl rfl ?_
           refine WQ.q (oq_load flat3 rfl (.head _) (List.mem_singleton.2 rfl) rfl) rfl rfl rfl ?_
           refine WQ.q (oq_eql rfl rfl) rfl rfl rfl ?_
           refine WQ.q (oq_move rfl) rfl rfl rfl ?_
           refine WQ.split 76 rfl (fun s6_57 => ?_) (fun s6_57 => ?_)
           ·
            try simp only [Z1, Z2, Z3, Z4, Z5, Z6, Z7, Z8, Z9, Z0] at s6_57
            refine WQ.q (oq_fieldAddr fld23_2 rfl) rfl rfl rfl ?_
            refine WQ.q (oq_load flat2 rfl (.head _) (List.mem_singleton.2 rfl) rfl) rfl rfl rfl ?_
            refine WQ.q (oq_gtr rfl rfl) rfl rfl rfl ?_
            refine WQ.q (oq_move rfl) rfl rfl rfl ?_
            refine WQ.split 80 rfl (fun s6_61 => ?_) (fun s6_61 => ?_)
            ·
             try simp only [Z1, Z2, Z3, Z4, Z5, Z6, Z7, Z8, Z9, Z0] at s6_61
             refine WQ.skip rfl rfl rfl ?_
             refine WQ.skip rfl rfl rfl ?_
             refine WQ.skip rfl rfl rfl ?_
             refine WQ.q (oq_pick_t rfl rfl) rfl rfl rfl ?_
             refine WQ.q (oq_pick_t rfl rfl) rfl rfl rfl ?_
             refine WQ.q (oq_pick_f rfl rfl) rfl rfl rfl ?_
             refine WQ.nil (WE.then_normal (WC.sub (fr' := [(0, _), (3, _), (86, _)]) ?_ ⟨rfl, rfl, rfl, trivial⟩))
             refine WC.cond_t rfl ?_
             refine WC.seq (WC.region ?_)
             refine WL.q (oq_assign rfl) rfl rfl rfl ?_
             refine WL.nil (WE.then_normal (WC.sub (fr' := [(2, _)]) ?_ ⟨rfl, trivial⟩))
             refine WC.ret (WE.block_ret (WE.then_ret (WE.then_ret (WE.block_ret (WE.then_ret ?_)))))
             refine WE.lose ho4 ?_
             refine WE.endR (.inl rfl) (res1 Tryz.results5 rfl) ?_
             exact congrArg Value.bool (all_not hlt (decide_eq_false (by unfold fineV; omega))).symm
            ·
             try simp only [Z1, Z2, Z3, Z4, Z5, Z6, Z7, Z8, Z9, Z0] at s6_61
             refine WQ.q (oq_fieldAddr fld23_2 rfl) rfl rfl rfl ?_
             refine WQ.q (oq_load flat2 rfl (.head _) (List.mem_singleton.2 rfl) rfl) rfl rfl rfl ?_
             refine WQ.q (oq_lss rfl rfl) rfl rfl rfl ?_
             refine WQ.q (oq_pick_f rfl rfl) rfl rfl rfl ?_
             refine WQ.q (oq_pick_t rfl rfl) rfl rfl rfl ?_
             refine WQ.q (oq_pick_f rfl rfl) rfl rfl rfl ?_
             refine WQ.nil (WE.then_normal (WC.sub (fr' := [(0, _), (3, _), (86, _)]) ?_ ⟨rfl, rfl, rfl, trivial⟩))
             refine WC.cond rfl (fun q6 => ?_) (fun q6 => ?_)
             ·
              try simp only [Z1, Z2, Z3, Z4, Z5, Z6, Z7, Z8, Z9, Z0] at q6
              refine WC.seq (WC.region ?_)
              refine WL.q (oq_assign rfl) rfl rfl rfl ?_
              refine WL.nil (WE.then_normal (WC.sub (fr' := [(2, _)]) ?_ ⟨rfl, trivial⟩))
              refine WC.ret (WE.block_ret (WE.then_ret (WE.then_ret (WE.block_ret (WE.then_ret ?_)))))
              refine WE.lose ho4 ?_
              refine WE.endR (.inl rfl) (res1 Tryz.results5 rfl) ?_
              exact congrArg Value.bool (all_not hlt (decide_eq_false (by unfold fineV; omega))).symm
             ·
              try simp only [Z1, Z2, Z3, Z4, Z5, Z6, Z7, Z8, Z9, Z0] at q6
              refine WC.skip (WE.block_normal (WE.then_normal (WC.sub (fr' := [(0, _), (3, _)]) ?_ ⟨rfl, rfl, trivial⟩)))
              refine WC.region ?_
              refine WL.q (oq_move rfl) rfl rfl rfl ?_
              refine WL.q (oq_add rfl rfl (by rw [i64_lo, i64_hi]; (first | omega | (simp only [List.length_cons, List.length_nil, List.length_append, List.length_drop, List.length_take]; omega)))) rfl rfl rfl ?_
              refine WL.q (oq_assign rfl) rfl rfl rfl ?_
              refine WL.nil ?_
              refine WE.lose ho4 ?_
              refine WE.again (i + 1) ?_ ?_ ⟨rfl, rfl, trivial⟩ (List.Perm.refl _)
              ·try dsimp only
               exact ⟨by omega, all_snoc (by omega) hall (decide_eq_true (by unfold fineV; omega))⟩
              ·(try dsimp only); omega
           ·
            try simp only [Z1, Z2, Z3, Z4, Z5, Z6, Z7, Z8, Z9, Z0] at s6_57
            refine WQ.skip rfl rfl rfl ?_
            refine WQ.skip rfl rfl rfl ?_
            refine WQ.skip rfl rfl rfl ?_
            refine WQ.skip rfl rfl rfl ?_
            refine WQ.skip rfl rfl rfl ?_
            refine WQ.skip rfl rfl rfl ?_
            refine WQ.skip rfl rfl rfl ?_
            refine WQ.skip rfl rfl rfl ?_
            refine WQ.q (oq_pick_f rfl rfl) rfl rfl rfl ?_
            refine WQ.q (oq_pick_f rfl rfl) rfl rfl rfl ?_
            refine WQ.nil (WE.then_normal (WC.sub (fr' := [(0, _), (3, _), (86, _)]) ?_ ⟨rfl, rfl, rfl, trivial⟩))
            refine WC.cond_f rfl ?_
            refine WC.skip (WE.block_normal (WE.then_normal (WC.sub (fr' := [(0, _), (3, _)]) ?_ ⟨rfl, rfl, trivial⟩)))
            refine WC.region ?_
            refine WL.q (oq_move rfl) rfl rfl rfl ?_
            refine WL.q (oq_add rfl rfl (by rw [i64_lo, i64_hi]; (first | omega | (simp only [List.length_cons, List.length_nil, List.length_append, List.length_drop, List.length_take]; omega)))) rfl rfl rfl ?_
            refine WL.q (oq_assign rfl) rfl rfl rfl ?_
            refine WL.nil ?_
            refine WE.lose ho4 ?_
            refine WE.again (i + 1) ?_ ?_ ⟨rfl, rfl, trivial⟩ (List.Perm.refl _)
            ·try dsimp only
             exact ⟨by omega, all_snoc (by omega) hall (decide_eq_true (by unfold fineV; omega))⟩
            ·(try dsimp only); omega
       ·
        try simp only [Z1, Z2, Z3, Z4, Z5, Z6, Z7, Z8, Z9, Z0] at s6_19
        refine WQ.skip rfl rfl rfl ?_
        refine WQ.skip rfl rfl rfl ?_
        refine WQ.q (oq_pick_f rfl rfl) rfl rfl rfl ?_
        refine WQ.q (oq_move rfl) rfl rfl rfl ?_
        refine WQ.skip rfl rfl rfl ?_
        refine WQ.skip rfl rfl rfl ?_
        refine WQ.q (oq_pick_f rfl rfl) rfl rfl rfl ?_
        refine WQ.q (oq_move rfl) rfl rfl rfl ?_
        refine WQ.q (oq_fieldAddr fld23_2 rfl) rfl rfl rfl ?_
        refine WQ.q (oq_load flat2 rfl (.head _) (List.mem_singleton.2 rfl) rfl) rfl rfl rfl ?_
        refine WQ.q (oq_move rfl) rfl rfl rfl ?_
        refine WQ.q (oq_sub rfl rfl (by rw [i64_lo, i64_hi]; (first | omega | (simp only [List.length_cons, List.length_nil, List.length_append, List.length_drop, List.length_take]; omega)))) rfl rfl rfl ?_
        refine WQ.q (oq_shl rfl rfl (by omega)) rfl rfl rfl ?_
        refine WQ.q (oq_move rfl) rfl rfl rfl ?_
        refine WQ.q (oq_sub rfl rfl (by rw [i64_lo, i64_hi]; (first | omega | (simp only [List.length_cons, List.length_nil, List.length_append, List.length_drop, List.length_take]; omega)))) rfl rfl rfl ?_
        refine WQ.q (oq_shr rfl rfl (by omega)) rfl rfl rfl ?_
        refine WQ.q (oq_fieldAddr fld23_2 rfl) rfl rfl rfl ?_
        refine WQ.q (oq_load flat2 rfl (.head _) (List.mem_singleton.2 rfl) rfl) rfl rfl rfl ?_
        refine WQ.q (oq_neq rfl rfl) rfl rfl rfl ?_
        refine WQ.q (oq_pick_f rfl rfl) rfl rfl rfl ?_
        refine WQ.q (oq_pick_t rfl rfl) rfl rfl rfl ?_
        refine WQ.q (oq_pick_f rfl rfl) rfl rfl rfl ?_
        refine WQ.q (oq_move rfl) rfl rfl rfl ?_
        refine WQ.split 61 rfl (fun s6_42 => ?_) (fun s6_42 => ?_)
        ·
         try simp only [Z1, Z2, Z3, Z4, Z5, Z6, Z7, Z8, Z9, Z0] at s6_42
         refine WQ.skip rfl rfl rfl ?_
         refine WQ.skip rfl rfl rfl ?_
         refine WQ.skip rfl rfl rfl ?_
         refine WQ.skip rfl rfl rfl ?_
         refine WQ.skip rfl rfl rfl ?_
         refine WQ.skip rfl rfl rfl ?_
         refine WQ.skip rfl rfl rfl ?_
         refine WQ.skip rfl rfl rfl ?_
         refine WQ.skip rfl rfl rfl ?_
         refine WQ.q (oq_pick_t rfl rfl) rfl rfl rfl ?_
         refine WQ.q (oq_move rfl) rfl rfl rfl ?_
         refine WQ.skip rfl rfl rfl ?_
         refine WQ.skip rfl rfl rfl ?_
         refine WQ.skip rfl rfl rfl ?_
         refine WQ.skip rfl rfl rfl ?_
         refine WQ.skip rfl rfl rfl ?_
         refine WQ.skip rfl rfl rfl ?_
         refine WQ.skip rfl rfl rfl ?_
         refine WQ.skip rfl rfl rfl ?_
         refine WQ.skip rfl rfl rfl ?_
         refine WQ.skip rfl rfl rfl ?_
         refine WQ.skip rfl rfl rfl ?_
         refine WQ.skip rfl rfl rfl ?_
         refine WQ.skip rfl rfl rfl ?_
         refine WQ.q (oq_pick_t rfl rfl) rfl rfl rfl ?_
         refine WQ.nil (WE.then_normal (WC.sub (fr' := [(0, _), (3, _), (86, _)]) ?_ ⟨rfl, rfl, rfl, trivial⟩))
         refine WC.cond_t rfl ?_
         refine WC.seq (WC.region ?_)
         refine WL.q (oq_assign rfl) rfl rfl rfl ?_
         refine WL.nil (WE.then_normal (WC.sub (fr' := [(2, _)]) ?_ ⟨rfl, trivial⟩))
         refine WC.ret (WE.block_ret (WE.then_ret (WE.then_ret (WE.block_ret (WE.then_ret ?_)))))
         refine WE.lose ho4 ?_
         refine WE.endR (.inl rfl) (res1 Tryz.results5 rfl) ?_
         exact congrArg Value.bool (all_not hlt (decide_eq_false (by unfold fineV; omega))).symm
        ·
         try simp only [Z1, Z2, Z3, Z4, Z5, Z6, Z7, Z8, Z9, Z0] at s6_42
         refine WQ.q (oq_fieldAddr fld23_0 rfl) rfl rfl rfl ?_
         refine WQ.q (oq_load flat3 rfl (.head _) (List.mem_singleton.2 rfl) rfl) rfl rfl rfl ?_
         refine WQ.q (oq_eql rfl rfl) rfl rfl rfl ?_
         refine WQ.q (oq_move rfl) rfl rfl rfl ?_
         refine WQ.split 65 rfl (fun s6_46 => ?_) (fun s6_46 => ?_)
         ·
          try simp only [Z1, Z2, Z3, Z4, Z5, Z6, Z7, Z8, Z9, Z0] at s6_46
          refine WQ.q (oq_fieldAddr fld23_3 rfl) rfl rfl rfl ?_
          refine WQ.q (oq_load flat9 rfl (.head _) (List.mem_singleton.2 rfl) rfl) rfl rfl rfl ?_
          refine WQ.q (oq_len_s Tryz.underlying9 rfl) rfl rfl rfl ?_
          refine WQ.q (oq_neq rfl rfl) rfl rfl rfl ?_
          refine WQ.q (oq_pick_t rfl rfl) rfl rfl rfl ?_
          refine WQ.q (oq_pick_f rfl rfl) rfl rfl rfl ?_
          refine WQ.q (oq_move rfl) rfl rfl rfl ?_
          refine WQ.split 72 rfl (fun s6_53 => ?_) (fun s6_53 => ?_)
          ·
           try simp only [Z1, Z2, Z3, Z4, Z5, Z6, Z7, Z8, Z9, Z0] at s6_53
           refine WQ.skip rfl rfl rfl ?_
           refine WQ.skip rfl rfl rfl ?_
           refine WQ.skip rfl rfl rfl ?_
           refine WQ.skip rfl rfl rfl ?_
           refine WQ.skip rfl rfl rfl ?_
           refine WQ.skip rfl rfl rfl ?_
           refine WQ.skip rfl rfl rfl ?_
           refine WQ.skip rfl rfl rfl ?_
           refine WQ.skip rfl rfl rfl ?_
           refine WQ.skip rfl rfl rfl ?_
           refine WQ.skip rfl rfl rfl ?_
           refine WQ.skip rfl rfl rfl ?_
           refine WQ.skip rfl rfl rfl ?_
           refine WQ.q (oq_pick_t rfl rfl) rfl rfl rfl ?_
           refine WQ.nil (WE.then_normal (WC.sub (fr' := [(0, _), (3, _), (86, _)]) ?_ ⟨rfl, rfl, rfl, trivial⟩))
           refine WC.cond_t rfl ?_
           refine WC.seq (WC.region ?_)
           refine WL.q (oq_assign rfl) rfl rfl rfl ?_
           refine WL.nil (WE.then_normal (WC.sub (fr' := [(2, _)]) ?_ ⟨rfl, trivial⟩))
           refine WC.ret (WE.block_ret (WE.then_ret (WE.then_ret (WE.block_ret (WE.then_ret ?_)))))
           refine WE.lose ho4 ?_
           refine WE.endR (.inl rfl) (res1 Tryz.results5 rfl) ?_
           exact congrArg Value.bool (all_not hlt (decide_eq_false (by unfold fineV; omega))).symm
          ·
           try simp only [Z1, Z2, Z3, Z4, Z5, Z6, Z7, Z8, Z9, Z0] at s6_53
           refine WQ.q (oq_fieldAddr fld23_0 rfl) rfl rfl rfl ?_
           refine WQ.q (oq_load flat3 rfl (.head _) (List.mem_singleton.2 rfl) rfl) rfl rfl rfl ?_
           refine WQ.q (oq_eql rfl rfl) rfl rfl rfl ?_
           refine WQ.q (oq_move rfl) rfl rfl rfl ?_
           refine WQ.split 76 rfl (fun s6_57 => ?_) (fun s6_57 => ?_)
           ·
            try simp only [Z1, Z2, Z3, Z4, Z5, Z6, Z7, Z8, Z9, Z0] at s6_57
            refine WQ.q (oq_fieldAddr fld23_2 rfl) rfl rfl rfl ?_
            refine WQ.q (oq_load flat2 rfl (.head _) (List.mem_singleton.2 rfl) rfl) rfl rfl rfl ?_
            refine WQ.q (oq_gtr rfl rfl) rfl rfl rfl ?_
            refine WQ.q (oq_move rfl) rfl rfl rfl ?_
            refine WQ.split 80 rfl (fun s6_61 => ?_) (fun s6_61 => ?_)
            ·
             try simp only [Z1, Z2, Z3, Z4, Z5, Z6, Z7, Z8, Z9, Z0] at s6_61
             refine WQ.skip rfl rfl rfl ?_
             refine WQ.skip rfl rfl rfl ?_
             refine WQ.skip rfl rfl rfl ?_
             refine WQ.q (oq_pick_t rfl rfl) rfl rfl rfl ?_
             refine WQ.q (oq_pick_t rfl rfl) rfl rfl rfl ?_
             refine WQ.q (oq_pick_f rfl rfl) rfl rfl rfl ?_
             refine WQ.nil (WE.then_normal (WC.sub (fr' := [(0, _), (3, _), (86, _)]) ?_ ⟨rfl, rfl, rfl, trivial⟩))
             refine WC.cond_t rfl ?_
             refine WC.seq (WC.region ?_)
             refine WL.q (oq_assign rfl) rfl rfl rfl ?_
             refine WL.nil (WE.then_normal (WC.sub (fr' := [(2, _)]) ?_ ⟨rfl, trivial⟩))
             refine WC.ret (WE.block_ret (WE.then_ret (WE.then_ret (WE.block_ret (WE.then_ret ?_)))))
             refine WE.lose ho4 ?_
             refine WE.endR (.inl rfl) (res1 Tryz.results5 rfl) ?_
             exact congrArg Value.bool (all_not hlt (decide_eq_false (by unfold fineV; omega))).symm
            ·
             try simp only [Z1, Z2, Z3, Z4, Z5, Z6, Z7, Z8, Z9, Z0] at s6_61
             refine WQ.q (oq_fieldAddr fld23_2 rfl) rfl rfl rfl ?_
             refine WQ.q (oq_load flat2 rfl (.head _) (List.mem_singleton.2 rfl) rfl) rfl rfl rfl ?_
             refine WQ.q (oq_lss rfl rfl) rfl rfl rfl ?_
             refine WQ.q (oq_pick_f rfl rfl) rfl rfl rfl ?_
             refine WQ.q (oq_pick_t rfl rfl) rfl rfl rfl ?_
             refine WQ.q (oq_pick_f rfl rfl) rfl rfl rfl ?_
             refine WQ.nil (WE.then_normal (WC.sub (fr' := [(0, _), (3, _), (86, _)]) ?_ ⟨rfl, rfl, rfl, trivial⟩))
             refine WC.cond rfl (fun q6 => ?_) (fun q6 => ?_)
             ·
              try simp only [Z1, Z2, Z3, Z4, Z5, Z6, Z7, Z8, Z9, Z0] at q6
              refine WC.seq (WC.region ?_)
              refine WL.q (oq_assign rfl) rfl rfl rfl ?_
              refine WL.nil (WE.then_normal (WC.sub (fr' := [(2, _)]) ?_ ⟨rfl, trivial⟩))
              refine WC.ret (WE.block_ret (WE.then_ret (WE.then_ret (WE.block_ret (WE.then_ret ?_)))))
              refine WE.lose ho4 ?_
              refine WE.endR (.inl rfl) (res1 Tryz.results5 rfl) ?_
              exact congrArg Value.bool (all_not hlt (decide_eq_false (by unfold fineV; omega))).symm
             ·
              try simp only [Z1, Z2, Z3, Z4, Z5, Z6, Z7, Z8, Z9, Z0] at q6
              refine WC.skip (WE.block_normal (WE.then_normal (WC.sub (fr' := [(0, _), (3, _)]) ?_ ⟨rfl, rfl, trivial⟩)))
              refine WC.region ?_
              refine WL.q (oq_move rfl) rfl rfl rfl ?_
              refine WL.q (oq_add rfl rfl (by rw [i64_lo, i64_hi]; (first | omega | (simp only [List.length_cons, List.length_nil, List.length_append, List.length_drop, List.length_take]; omega)))) rfl rfl rfl ?_
              refine WL.q (oq_assign rfl) rfl rfl rfl ?_
              refine WL.nil ?_
              refine WE.lose ho4 ?_
              refine WE.again (i + 1) ?_ ?_ ⟨rfl, rfl, trivial⟩ (List.Perm.refl _)
              ·try dsimp only
               exact ⟨by omega, all_snoc (by omega) hall (decide_eq_true (by unfold fineV; omega))⟩
              ·(try dsimp only); omega
           ·
            try simp only [Z1, Z2, Z3, Z4, Z5, Z6, Z7, Z8, Z9, Z0] at s6_57
            refine WQ.skip rfl rfl rfl ?_
            refine WQ.skip rfl rfl rfl ?_
            refine WQ.skip rfl rfl rfl ?_
            refine WQ.skip rfl rfl rfl ?_
            refine WQ.skip rfl rfl rfl ?_
            refine WQ.skip rfl rfl rfl ?_
            refine WQ.skip rfl rfl rfl ?_
            refine WQ.skip rfl rfl rfl ?_
            refine WQ.q (oq_pick_f rfl rfl) rfl rfl rfl ?_
            refine WQ.q (oq_pick_f rfl rfl) rfl rfl rfl ?_
            refine WQ.nil (WE.then_normal (WC.sub (fr' := [(0, _), (3, _), (86, _)]) ?_ ⟨rfl, rfl, rfl, trivial⟩))
            refine WC.cond_f rfl ?_
            refine WC.skip (WE.block_normal (WE.then_normal (WC.sub (fr' := [(0, _), (3, _)]) ?_ ⟨rfl, rfl, trivial⟩)))
            refine WC.region ?_
            refine WL.q (oq_move rfl) rfl rfl rfl ?_
            refine WL.q (oq_add rfl rfl (by rw [i64_lo, i64_hi]; (first | omega | (simp only [List.length_cons, List.length_nil, List.length_append, List.length_drop, List.length_take]; omega)))) rfl rfl rfl ?_
            refine WL.q (oq_assign rfl) rfl rfl rfl ?_
            refine WL.nil ?_
            refine WE.lose ho4 ?_
            refine WE.again (i + 1) ?_ ?_ ⟨rfl, rfl, trivial⟩ (List.Perm.refl _)
            ·try dsimp only
             exact ⟨by omega, all_snoc (by omega) hall (decide_eq_true (by unfold fineV; omega))⟩
            ·(try dsimp only); omega
         ·
          try simp only [Z1, Z2, Z3, Z4, Z5, Z6, Z7, Z8, Z9, Z0] at s6_46
          refine WQ.skip rfl rfl rfl ?_
          refine WQ.skip rfl rfl rfl ?_
          refine WQ.skip rfl rfl rfl ?_
          refine WQ.skip rfl rfl rfl ?_
          refine WQ.q (oq_pick_f rfl rfl) rfl rfl rfl ?_
          refine WQ.q (oq_pick_f rfl rfl) rfl rfl rfl ?_
          refine WQ.q (oq_move rfl) rfl rfl rfl ?_
          refine WQ.q (oq_fieldAddr fld23_0 rfl) rfl rfl rfl ?_
          refine WQ.q (oq_load flat3 rfl (.head _) (List.mem_singleton.2 rfl) rfl) rfl rfl rfl ?_
          refine WQ.q (oq_eql rfl rfl) rfl rfl rfl ?_
          refine WQ.q (oq_move rfl) rfl rfl rfl ?_
          refine WQ.split 76 rfl (fun s6_57 => ?_) (fun s6_57 => ?_)
          ·
           try simp only [Z1, Z2, Z3, Z4, Z5, Z6, Z7, Z8, Z9, Z0] at s6_57
           refine WQ.q (oq_fieldAddr fld23_2 rfl) rfl rfl rfl ?_
           refine WQ.q (oq_load flat2 rfl (.head _) (List.mem_singleton.2 rfl) rfl) rfl rfl rfl ?_
           refine WQ.q (oq_gtr rfl rfl) rfl rfl rfl ?_
           refine WQ.q (oq_move rfl) rfl rfl rfl ?_
           refine WQ.split 80 rfl (fun s6_61 => ?_) (fun s6_61 => ?_)
           ·
            try simp only [Z1, Z2, Z3, Z4, Z5, Z6, Z7, Z8, Z9, Z0] at s6_61
            refine WQ.skip rfl rfl rfl ?_
            refine WQ.skip rfl rfl rfl ?_
            refine WQ.skip rfl rfl rfl ?_
            refine WQ.q (oq_pick_t rfl rfl) rfl rfl rfl ?_
            refine WQ.q (oq_pick_t rfl rfl) rfl rfl rfl ?_
            refine WQ.q (oq_pick_f rfl rfl) rfl rfl rfl ?_
            refine WQ.nil (WE.then_normal (WC.sub (fr' := [(0, _), (3, _), (86, _)]) ?_ ⟨rfl, rfl, rfl, trivial⟩))
            refine WC.cond_t rfl ?_
            refine WC.seq (WC.region ?_)
            refine WL.q (oq_assign rfl) rfl rfl rfl ?_
            refine WL.nil (WE.then_normal (WC.sub (fr' := [(2, _)]) ?_ ⟨rfl, trivial⟩))
            refine WC.ret (WE.block_ret (WE.then_ret (WE.then_ret (WE.block_ret (WE.then_ret ?_)))))
            refine WE.lose ho4 ?_
            refine WE.endR (.inl rfl) (res1 Tryz.results5 rfl) ?_
            exact congrArg Value.bool (all_not hlt (decide_eq_false (by unfold fineV; omega))).symm
           ·
            try simp only [Z1, Z2, Z3, Z4, Z5, Z6, Z7, Z8, Z9, Z0] at s6_61
            refine WQ.q (oq_fieldAddr fld23_2 rfl) rfl rfl rfl ?_
            refine WQ.q (oq_load flat2 rfl (.head _) (List.mem_singleton.2 rfl) rfl) rfl rfl rfl ?_
            refine WQ.q (oq_lss rfl rfl) rfl rfl rfl ?_
            refine WQ.q (oq_pick_f rfl rfl) rfl rfl rfl ?_
            refine WQ.q (oq_pick_t rfl rfl) rfl rfl rfl ?_
            refine WQ.q (oq_pick_f rfl rfl) rfl rfl rfl ?_
            refine WQ.nil (WE.then_normal (WC.sub (fr' := [(0, _), (3, _), (86, _)]) ?_ ⟨rfl, rfl, rfl, trivial⟩))
            refine WC.cond rfl (fun q6 => ?_) (fun q6 => ?_)
            ·
             try simp only [Z1, Z2, Z3, Z4, Z5, Z6, Z7, Z8, Z9, Z0] at q6
             refine WC.seq (WC.region ?_)
             refine WL.q (oq_assign rfl) rfl rfl rfl ?_
             refine WL.nil (WE.then_normal (WC.sub (fr' := [(2, _)]) ?_ ⟨rfl, trivial⟩))
             refine WC.ret (WE.block_ret (WE.then_ret (WE.then_ret (WE.block_ret (WE.then_ret ?_)))))
             refine WE.lose ho4 ?_
             refine WE.endR (.inl rfl) (res1 Tryz.results5 rfl) ?_
             exact congrArg Value.bool (all_not hlt (decide_eq_false (by unfold fineV; omega))).symm
            ·
             try simp only [Z1, Z2, Z3, Z4, Z5, Z6, Z7, Z8, Z9, Z0] at q6
             refine WC.skip (WE.block_normal (WE.then_normal (WC.sub (fr' := [(0, _), (3, _)]) ?_ ⟨rfl, rfl, trivial⟩)))
             refine WC.region ?_
             refine WL.q (oq_move rfl) rfl rfl rfl ?_
             refine WL.q (oq_add rfl rfl (by rw [i64_lo, i64_hi]; (first | omega | (simp only [List.length_cons, List.length_nil, List.length_append, List.length_drop, List.length_take]; omega)))) rfl rfl rfl ?_
             refine WL.q (oq_assign rfl) rfl rfl rfl ?_
             refine WL.nil ?_
             refine WE.lose ho4 ?_
             refine WE.again (i + 1) ?_ ?_ ⟨rfl, rfl, trivial⟩ (List.Perm.refl _)
             ·try dsimp only
              exact ⟨by omega, all_snoc (by omega) hall (decide_eq_true (by unfold fineV; omega))⟩
             ·(try dsimp only); omega
          ·
           try simp only [Z1, Z2, Z3, Z4, Z5, Z6, Z7, Z8, Z9, Z0] at s6_57
           refine WQ.skip rfl rfl rfl ?_
           refine WQ.skip rfl rfl rfl ?_
           refine WQ.skip rfl rfl rfl ?_
           refine WQ.skip rfl rfl rfl ?_
           refine WQ.skip rfl rfl rfl ?_
           refine WQ.skip rfl rfl rfl ?_
           refine WQ.skip rfl rfl rfl ?_
           refine WQ.skip rfl rfl rfl ?_
           refine WQ.q (oq_pick_f rfl rfl) rfl rfl rfl ?_
           refine WQ.q (oq_pick_f rfl rfl) rfl rfl rfl ?_
           refine WQ.nil (WE.then_normal (WC.sub (fr' := [(0, _), (3, _), (86, _)]) ?_ ⟨rfl, rfl, rfl, trivial⟩))
           refine WC.cond_f rfl ?_
           refine WC.skip (WE.block_normal (WE.then_normal (WC.sub (fr' := [(0, _), (3, _)]) ?_ ⟨rfl, rfl, trivial⟩)))
           refine WC.region ?_
           refine WL.q (oq_move rfl) rfl rfl rfl ?_
           refine WL.q (oq_add rfl rfl (by rw [i64_lo, i64_hi]; (first | omega | (simp only [List.length_cons, List.length_nil, List.length_append, List.length_drop, List.length_take]; omega)))) rfl rfl rfl ?_
           refine WL.q (oq_assign rfl) rfl rfl rfl ?_
           refine WL.nil ?_
           refine WE.lose ho4 ?_
           refine WE.again (i + 1) ?_ ?_ ⟨rfl, rfl, trivial⟩ (List.Perm.refl _)
           ·try dsimp only
            exact ⟨by omega, all_snoc (by omega) hall (decide_eq_true (by unfold fineV; omega))⟩
           ·(try dsimp only); omega
      ·
       try simp only [Z1, Z2, Z3, Z4, Z5, Z6, Z7, Z8, Z9, Z0] at s6_15
       refine WQ.skip rfl rfl rfl ?_
       refine WQ.skip rfl rfl rfl ?_
       refine WQ.q (oq_pick_f rfl rfl) rfl rfl rfl ?_
       refine WQ.q (oq_move rfl) rfl rfl rfl ?_
       refine WQ.skip rfl rfl rfl ?_
       refine WQ.skip rfl rfl rfl ?_
       refine WQ.q (oq_pick_f rfl rfl) rfl rfl rfl ?_
       refine WQ.q (oq_move rfl) rfl rfl rfl ?_
       refine WQ.skip rfl rfl rfl ?_
       refine WQ.skip rfl rfl rfl ?_
       refine WQ.q (oq_pick_f rfl rfl) rfl rfl rfl ?_
       refine WQ.q (oq_move rfl) rfl rfl rfl ?_
       refine WQ.q (oq_fieldAddr fld23_2 rfl) rfl rfl rfl ?_
       refine WQ.q (oq_load flat2 rfl (.head _) (List.mem_singleton.2 rfl) rfl) rfl rfl rfl ?_
       refine WQ.q (oq_move rfl) rfl rfl rfl ?_
       refine WQ.q (oq_sub rfl rfl (by rw [i64_lo, i64_hi]; (first | omega | (simp only [List.length_cons, List.length_nil, List.length_append, List.length_drop, List.length_take]; omega)))) rfl rfl rfl ?_
       refine WQ.q (oq_shl rfl rfl (by omega)) rfl rfl rfl ?_
       refine WQ.q (oq_move rfl) rfl rfl rfl ?_
       refine WQ.q (oq_sub rfl rfl (by rw [i64_lo, i64_hi]; (first | omega | (simp only [List.length_cons, List.length_nil, List.length_append, List.length_drop, List.length_take]; omega)))) rfl rfl rfl ?_
       refine WQ.q (oq_shr rfl rfl (by omega)) rfl rfl rfl ?_
       refine WQ.q (oq_fieldAddr fld23_2 rfl) rfl rfl rfl ?_
       refine WQ.q (oq_load flat2 rfl (.head _) (List.mem_singleton.2 rfl) rfl) rfl rfl rfl ?_
       refine WQ.q (oq_neq rfl rfl) rfl rfl rfl ?_
       refine WQ.q (oq_pick_f rfl rfl) rfl rfl rfl ?_
       refine WQ.q (oq_pick_t rfl rfl) rfl rfl rfl ?_
       refine WQ.q (oq_pick_f rfl rfl) rfl rfl rfl ?_
       refine WQ.q (oq_move rfl) rfl rfl rfl ?_
       refine WQ.split 61 rfl (fun s6_42 => ?_) (fun s6_42 => ?_)
       ·
        try simp only [Z1, Z2, Z3, Z4, Z5, Z6, Z7, Z8, Z9, Z0] at s6_42
        refine WQ.skip rfl rfl rfl ?_
        refine WQ.skip rfl rfl rfl ?_
        refine WQ.skip rfl rfl rfl ?_
        refine WQ.skip rfl rfl rfl ?_
        refine WQ.skip rfl rfl rfl ?_
        refine WQ.skip rfl rfl rfl ?_
        refine WQ.skip rfl rfl rfl ?_
        refine WQ.skip rfl rfl rfl ?_
        refine WQ.skip rfl rfl rfl ?_
        refine WQ.q (oq_pick_t rfl rfl) rfl rfl rfl ?_
        refine WQ.q (oq_move rfl) rfl rfl rfl ?_
        refine WQ.skip rfl rfl rfl ?_
        refine WQ.skip rfl rfl rfl ?_
        refine WQ.skip rfl rfl rfl ?_
        refine WQ.skip rfl rfl rfl ?_
        refine WQ.skip rfl rfl rfl ?_
        refine WQ.skip rfl rfl rfl ?_
        refine WQ.skip rfl rfl rfl ?_
        refine WQ.skip rfl rfl rfl ?_
        refine WQ.skip rfl rfl rfl ?_
        refine WQ.skip rfl rfl rfl ?_
        refine WQ.skip rfl rfl rfl ?_
        refine WQ.skip rfl rfl rfl ?_
        refine WQ.skip rfl rfl rfl ?_
        refine WQ.q (oq_pick_t rfl rfl) rfl rfl rfl ?_
        refine WQ.nil (WE.then_normal (WC.sub (fr' := [(0, _), (3, _), (86, _)]) ?_ ⟨rfl, rfl, rfl, trivial⟩))
        refine WC.cond_t rfl ?_
        refine WC.seq (WC.region ?_)
        refine WL.q (oq_assign rfl) rfl rfl rfl ?_
        refine WL.nil (WE.then_normal (WC.sub (fr' := [(2, _)]) ?_ ⟨rfl, trivial⟩))
        refine WC.ret (WE.block_ret (WE.then_ret (WE.then_ret (WE.block_ret (WE.then_ret ?_)))))
        refine WE.lose ho4 ?_
        refine WE.endR (.inl rfl) (res1 Tryz.results5 rfl) ?_
        exact congrArg Value.bool (all_not hlt (decide_eq_false (by unfold fineV; omega))).symm
       ·
        try simp only [Z1, Z2, Z3, Z4, Z5, Z6, Z7, Z8, Z9, Z0] at s6_42
        refine WQ.q (oq_fieldAddr fld23_0 rfl) rfl rfl rfl ?_
        refine WQ.q (oq_load flat3 rfl (.head _) (List.mem_singleton.2 rfl) rfl) rfl rfl rfl ?_
        refine WQ.q (oq_eql rfl rfl) rfl rfl rfl ?_
        refine WQ.q (oq_move rfl) rfl rfl rfl ?_
        refine WQ.split 65 rfl (fun s6_46 => ?_) (fun s6_46 => ?_)
        ·
         try simp only [Z1, Z2, Z3, Z4, Z5, Z6, Z7, Z8, Z9, Z0] at s6_46
         refine WQ.q (oq_fieldAddr fld23_3 rfl) rfl rfl rfl ?_
         refine WQ.q (oq_load flat9 rfl (.head _) (List.mem_singleton.2 rfl) rfl) rfl rfl rfl ?_
         refine WQ.q (oq_len_s Tryz.underlying9 rfl) rfl rfl rfl ?_
         refine WQ.q (oq_neq rfl rfl) rfl rfl rfl ?_
         refine WQ.q (oq_pick_t rfl rfl) rfl rfl rfl ?_
         refine WQ.q (oq_pick_f rfl rfl) rfl rfl rfl ?_
         refine WQ.q (oq_move rfl) rfl rfl rfl ?_
         refine WQ.split 72 rfl (fun s6_53 => ?_) (fun s6_53 => ?_)
         ·
          try simp only [Z1, Z2, Z3, Z4, Z5, Z6, Z7, Z8, Z9, Z0] at s6_53
          refine WQ.skip rfl rfl rfl ?_
          refine WQ.skip rfl rfl rfl ?_
          refine WQ.skip rfl rfl rfl ?_
          refine WQ.skip rfl rfl rfl ?_
          refine WQ.skip rfl rfl rfl ?_
          refine WQ.skip rfl rfl rfl ?_
          refine WQ.skip rfl rfl rfl ?_
          refine WQ.skip rfl rfl rfl ?_
          refine WQ.skip rfl rfl rfl ?_
          refine WQ.skip rfl rfl rfl ?_
          refine WQ.skip rfl rfl rfl ?_
          refine WQ.skip rfl rfl rfl ?_
          refine WQ.skip rfl rfl rfl ?_
          refine WQ.q (oq_pick_t rfl rfl) rfl rfl rfl ?_
          refine WQ.nil (WE.then_normal (WC.sub (fr' := [(0, _), (3, _), (86, _)]) ?_ ⟨rfl, rfl, rfl, trivial⟩))
          refine WC.cond_t rfl ?_
          refine WC.seq (WC.region ?_)
          refine WL.q (oq_assign rfl) rfl rfl rfl ?_
          refine WL.nil (WE.then_normal (WC.sub (fr' := [(2, _)]) ?_ ⟨rfl, trivial⟩))
          refine WC.ret (WE.block_ret (WE.then_ret (WE.then_ret (WE.block_ret (WE.then_ret ?_)))))
          refine WE.lose ho4 ?_
          refine WE.endR (.inl rfl) (res1 Tryz.results5 rfl) ?_
          exact congrArg Value.bool (all_not hlt (decide_eq_false (by unfold fineV; omega))).symm
         ·
          try simp only [Z1, Z2, Z3, Z4, Z5, Z6, Z7, Z8, Z9, Z0] at s6_53
          refine WQ.q (oq_fieldAddr fld23_0 rfl) rfl rfl rfl ?_
          refine WQ.q (oq_load flat3 rfl (.head _) (List.mem_singleton.2 rfl) rfl) rfl rfl rfl ?_
          refine WQ.q (oq_eql rfl rfl) rfl rfl rfl ?_
          refine WQ.q (oq_move rfl) rfl rfl rfl ?_
          refine WQ.split 76 rfl (fun s6_57 => ?_) (fun s6_57 => ?_)
          ·
           try simp only [Z1, Z2, Z3, Z4, Z5, Z6, Z7, Z8, Z9, Z0] at s6_57
           refine WQ.q (oq_fieldAddr fld23_2 rfl) rfl rfl rfl ?_
           refine WQ.q (oq_load flat2 rfl (.head _) (List.mem_singleton.2 rfl) rfl) rfl rfl rfl ?_
           refine WQ.q (oq_gtr rfl rfl) rfl rfl rfl ?_
           refine WQ.q (oq_move rfl) rfl rfl rfl ?_
           refine WQ.split 80 rfl (fun s6_61 => ?_) (fun s6_61 => ?_)
           ·
            try simp only [Z1, Z2, Z3, Z4, Z5, Z6, Z7, Z8, Z9, Z0] at s6_61
            refine WQ.skip rfl rfl rfl ?_
            refine WQ.skip rfl rfl rfl ?_
            refine WQ.skip rfl rfl rfl ?_
            refine WQ.q (oq_pick_t rfl rfl) rfl rfl rfl ?_
            refine WQ.q (oq_pick_t rfl rfl) rfl rfl rfl ?_
            refine WQ.q (oq_pick_f rfl rfl) rfl rfl rfl ?_
            refine WQ.nil (WE.then_normal (WC.sub (fr' := [(0, _), (3, _), (86, _)]) ?_ ⟨rfl, rfl, rfl, trivial⟩))
            refine WC.cond_t rfl ?_
            refine WC.seq (WC.region ?_)
            refine WL.q (oq_assign rfl) rfl rfl rfl ?_
            refine WL.nil (WE.then_normal (WC.sub (fr' := [(2, _)]) ?_ ⟨rfl, trivial⟩))
            refine WC.ret (WE.block_ret (WE.then_ret (WE.then_ret (WE.block_ret (WE.then_ret ?_)))))
            refine WE.lose ho4 ?_
            refine WE.endR (.inl rfl) (res1 Tryz.results5 rfl) ?_
            exact congrArg Value.bool (all_not hlt (decide_eq_false (by unfold fineV; omega))).symm
           ·
            try simp only [Z1, Z2, Z3, Z4, Z5, Z6, Z7, Z8, Z9, Z0] at s6_61
            refine WQ.q (oq_fieldAddr fld23_2 rfl) rfl rfl rfl ?_
            refine WQ.q (oq_load flat2 rfl (.head _) (List.mem_singleton.2 rfl) rfl) rfl rfl rfl ?_
            refine WQ.q (oq_lss rfl rfl) rfl rfl rfl ?_
            refine WQ.q (oq_pick_f rfl rfl) rfl rfl rfl ?_
            refine WQ.q (oq_pick_t rfl rfl) rfl rfl rfl ?_
            refine WQ.q (oq_pick_f rfl rfl) rfl rfl rfl ?_
            refine WQ.nil (WE.then_normal (WC.sub (fr' := [(0, _), (3, _), (86, _)]) ?_ ⟨rfl, rfl, rfl, trivial⟩))
            refine WC.cond rfl (fun q6 => ?_) (fun q6 => ?_)
            ·
             try simp only [Z1, Z2, Z3, Z4, Z5, Z6, Z7, Z8, Z9, Z0] at q6
             refine WC.seq (WC.region ?_)
             refine WL.q (oq_assign rfl) rfl rfl rfl ?_
             refine WL.nil (WE.then_normal (WC.sub (fr' := [(2, _)]) ?_ ⟨rfl, trivial⟩))
             refine WC.ret (WE.block_ret (WE.then_ret (WE.then_ret (WE.block_ret (WE.then_ret ?_)))))
             refine WE.lose ho4 ?_
             refine WE.endR (.inl rfl) (res1 Tryz.results5 rfl) ?_
             exact congrArg Value.bool (all_not hlt (decide_eq_false (by unfold fineV; omega))).symm
            ·
             try simp only [Z1, Z2, Z3, Z4, Z5, Z6, Z7, Z8, Z9, Z0] at q6
             refine WC.skip (WE.block_normal (WE.then_normal (WC.sub (fr' := [(0, _), (3, _)]) ?_ ⟨rfl, rfl, trivial⟩)))
             refine WC.region ?_
             refine WL.q (oq_move rfl) rfl rfl rfl ?_
             refine WL.q (oq_add rfl rfl (by rw [i64_lo, i64_hi]; (first | omega | (simp only [List.length_cons, List.length_nil, List.length_append, List.length_drop, List.length_take]; omega)))) rfl rfl rfl ?_
             refine WL.q (oq_assign rfl) rfl rfl rfl ?_
             refine WL.nil ?_
             refine WE.lose ho4 ?_
             refine WE.again (i + 1) ?_ ?_ ⟨rfl, rfl, trivial⟩ (List.Perm.refl _)
             ·try dsimp only
              exact ⟨by omega, all_snoc (by omega) hall (decide_eq_true (by unfold fineV; omega))⟩
             ·(try dsimp only); omega
          ·
           try simp only [Z1, Z2, Z3, Z4, Z5, Z6, Z7, Z8, Z9, Z0] at s6_57
           refine WQ.skip rfl rfl rfl ?_
           refine WQ.skip rfl rfl rfl ?_
           refine WQ.skip rfl rfl rfl ?_
           refine WQ.skip rfl rfl rfl ?_
           refine WQ.skip rfl rfl rfl ?_
           refine WQ.skip rfl rfl rfl ?_
           refine WQ.skip rfl rfl rfl ?_
           refine WQ.skip rfl rfl rfl ?_
           refine WQ.q (oq_pick_f rfl rfl) rfl rfl rfl ?_
           refine WQ.q (oq_pick_f rfl rfl) rfl rfl rfl ?_
           refine WQ.nil (WE.then_normal (WC.sub (fr' := [(0, _), (3, _), (86, _)]) ?_ ⟨rfl, rfl, rfl, trivial⟩))
           refine WC.cond_f rfl ?_
           refine WC.skip (WE.block_normal (WE.then_normal (WC.sub (fr' := [(0, _), (3, _)]) ?_ ⟨rfl, rfl, trivial⟩)))
           refine WC.region ?_
           refine WL.q (oq_move rfl) rfl rfl rfl ?_
           refine WL.q (oq_add rfl rfl (by rw [i64_lo, i64_hi]; (first | omega | (simp only [List.length_cons, List.length_nil, List.length_append, List.length_drop, List.length_take]; omega)))) rfl rfl rfl ?_
           refine WL.q (oq_assign rfl) rfl rfl rfl ?_
           refine WL.nil ?_
           refine WE.lose ho4 ?_
           refine WE.again (i + 1) ?_ ?_ ⟨rfl, rfl, trivial⟩ (List.Perm.refl _)
           ·try dsimp only
            exact ⟨by omega, all_snoc (by omega) hall (decide_eq_true (by unfold fineV; omega))⟩
           ·(try dsimp only); omega
        ·
         try simp only [Z1, Z2, Z3, Z4, Z5, Z6, Z7, Z8, Z9, Z0] at s6_46
         refine WQ.skip rfl rfl rfl ?_
         refine WQ.skip rfl rfl rfl ?_
         refine WQ.skip rfl rfl rfl ?_
         refine WQ.skip rfl rfl rfl ?_
         refine WQ.q (oq_pick_f rfl rfl) rfl rfl rfl ?_
         refine WQ.q (oq_pick_f rfl rfl) rfl rfl rfl ?_
         refine WQ.q (oq_move rfl) rfl rfl rfl ?_
         refine WQ.q (oq_fieldAddr fld23_0 rfl) rfl rfl rfl ?_
         refine WQ.q (oq_load flat3 rfl (.head _) (List.mem_singleton.2 rfl) rfl) rfl rfl rfl ?_
         refine WQ.q (oq_eql rfl rfl) rfl rfl rfl ?_
         refine WQ.q (oq_move rfl) rfl rfl rfl ?_
         refine WQ.split 76 rfl (fun s6_57 => ?_) (fun s6_57 => ?_)
         ·
          try simp only [Z1, Z2, Z3, Z4, Z5, Z6, Z7, Z8, Z9, Z0] at s6_57
          refine WQ.q (oq_fieldAddr fld23_2 rfl) rfl rfl rfl ?_
          refine WQ.q (oq_load flat2 rfl (.head _) (List.mem_singleton.2 rfl) rfl) rfl rfl rfl ?_
          refine WQ.q (oq_gtr rfl rfl) rfl rfl rfl ?_
          refine WQ.q (oq_move rfl) rfl rfl rfl ?_
          refine WQ.split 80 rfl (fun s6_61 => ?_) (fun s6_61 => ?_)
          ·
           try simp only [Z1, Z2, Z3, Z4, Z5, Z6, Z7, Z8, Z9, Z0] at s6_61
           refine WQ.skip rfl rfl rfl ?_
           refine WQ.skip rfl rfl rfl ?_
           refine WQ.skip rfl rfl rfl ?_
           refine WQ.q (oq_pick_t rfl rfl) rfl rfl rfl ?_
           refine WQ.q (oq_pick_t rfl rfl) rfl rfl rfl ?_
           refine WQ.q (oq_pick_f rfl rfl) rfl rfl rfl ?_
           refine WQ.nil (WE.then_normal (WC.sub (fr' := [(0, _), (3, _), (86, _)]) ?_ ⟨rfl, rfl, rfl, trivial⟩))
           refine WC.cond_t rfl ?_
           refine WC.seq (WC.region ?_)
           refine WL.q (oq_assign rfl) rfl rfl rfl ?_
           refine WL.nil (WE.then_normal (WC.sub (fr' := [(2, _)]) ?_ ⟨rfl, trivial⟩))
           refine WC.ret (WE.block_ret (WE.then_ret (WE.then_ret (WE.block_ret (WE.then_ret ?_)))))
           refine WE.lose ho4 ?_
           refine WE.endR (.inl rfl) (res1 Tryz.results5 rfl) ?_
           exact congrArg Value.bool (all_not hlt (decide_eq_false (by unfold fineV; omega))).symm
          ·
           try simp only [Z1, Z2, Z3, Z4, Z5, Z6, Z7, Z8, Z9, Z0] at s6_61
           refine WQ.q (oq_fieldAddr fld23_2 rfl) rfl rfl rfl ?_
           refine WQ.q (oq_load flat2 rfl (.head _) (List.mem_singleton.2 rfl) rfl) rfl rfl rfl ?_
           refine WQ.q (oq_lss rfl rfl) rfl rfl rfl ?_
           refine WQ.q (oq_pick_f rfl rfl) rfl rfl rfl ?_
           refine WQ.q (oq_pick_t rfl rfl) rfl rfl rfl ?_
           refine WQ.q (oq_pick_f rfl rfl) rfl rfl rfl ?_
           refine WQ.nil (WE.then_normal (WC.sub (fr' := [(0, _), (3, _), (86, _)]) ?_ ⟨rfl, rfl, rfl, trivial⟩))
           refine WC.cond rfl (fun q6 => ?_) (fun q6 => ?_)
           ·
            try simp only [Z1, Z2, Z3, Z4, Z5, Z6, Z7, Z8, Z9, Z0] at q6
            refine WC.seq (WC.region ?_)
            refine WL.q (oq_assign rfl) rfl rfl rfl ?_
            refine WL.nil (WE.then_normal (WC.sub (fr' := [(2, _)]) ?_ ⟨rfl, trivial⟩))
            refine WC.ret (WE.block_ret (WE.then_ret (WE.then_ret (WE.block_ret (WE.then_ret ?_)))))
            refine WE.lose ho4 ?_
            refine WE.endR (.inl rfl) (res1 Tryz.results5 rfl) ?_
            exact congrArg Value.bool (all_not hlt (decide_eq_false (by unfold fineV; omega))).symm
           ·
            try simp only [Z1, Z2, Z3, Z4, Z5, Z6, Z7, Z8, Z9, Z0] at q6
            refine WC.skip (WE.block_normal (WE.then_normal (WC.sub (fr' := [(0, _), (3, _)]) ?_ ⟨rfl, rfl, trivial⟩)))
            refine WC.region ?_
            refine WL.q (oq_move rfl) rfl rfl rfl ?_
            refine WL.q (oq_add rfl rfl (by rw [i64_lo, i64_hi]; (first | omega | (simp only [List.length_cons, List.length_nil, List.length_append, List.length_drop, List.length_take]; omega)))) rfl rfl rfl ?_
            refine WL.q (oq_assign rfl) rfl rfl rfl ?_
            refine WL.nil ?_
            refine WE.lose ho4 ?_
            refine WE.again (i + 1) ?_ ?_ ⟨rfl, rfl, trivial⟩ (List.Perm.refl _)
            ·try dsimp only
             exact ⟨by omega, all_snoc (by omega) hall (decide_eq_true (by unfold fineV; omega))⟩
            ·(try dsimp only); omega
         ·
          try simp only [Z1, Z2, Z3, Z4, Z5, Z6, Z7, Z8, Z9, Z0] at s6_57
          refine WQ.skip rfl rfl rfl ?_
          refine WQ.skip rfl rfl rfl ?_
          refine WQ.skip rfl rfl rfl ?_
          refine WQ.skip rfl rfl rfl ?_
          refine WQ.skip rfl rfl rfl ?_
          refine WQ.skip rfl rfl rfl ?_
          refine WQ.skip rfl rfl rfl ?_
          refine WQ.skip rfl rfl rfl ?_
          refine WQ.q (oq_pick_f rfl rfl) rfl rfl rfl ?_
          refine WQ.q (oq_pick_f rfl rfl) rfl rfl rfl ?_
          refine WQ.nil (WE.then_normal (WC.sub (fr' := [(0, _), (3, _), (86, _)]) ?_ ⟨rfl, rfl, rfl, trivial⟩))
          refine WC.cond_f rfl ?_
          refine WC.skip (WE.block_normal (WE.then_normal (WC.sub (fr' := [(0, _), (3, _)]) ?_ ⟨rfl, rfl, trivial⟩)))
          refine WC.region ?_
          refine WL.q (oq_move rfl) rfl rfl rfl ?_
          refine WL.q (oq_add rfl rfl (by rw [i64_lo, i64_hi]; (first | omega | (simp only [List.length_cons, List.length_nil, List.length_append, List.length_drop, List.length_take]; omega)))) rfl rfl rfl ?_
          refine WL.q (oq_assign rfl) rfl rfl rfl ?_
          refine WL.nil ?_
          refine WE.lose ho4 ?_
          refine WE.again (i + 1) ?_ ?_ ⟨rfl, rfl, trivial⟩ (List.Perm.refl _)
          ·try dsimp only
           exact ⟨by omega, all_snoc (by omega) hall (decide_eq_true (by unfold fineV; omega))⟩
          ·(try dsimp only); omega
     ·
      try simp only [Z1, Z2, Z3, Z4, Z5, Z6, Z7, Z8, Z9, Z0] at s6_12
      refine WQ.skip rfl rfl rfl ?_
      refine WQ.skip rfl rfl rfl ?_
      refine WQ.skip rfl rfl rfl ?_
      refine WQ.skip rfl rfl rfl ?_
      refine WQ.skip rfl rfl rfl ?_
      refine WQ.skip rfl rfl rfl ?_
      refine WQ.skip rfl rfl rfl ?_
      refine WQ.skip rfl rfl rfl ?_
      refine WQ.skip rfl rfl rfl ?_
      refine WQ.skip rfl rfl rfl ?_
      refine WQ.skip rfl rfl rfl ?_
      refine WQ.skip rfl rfl rfl ?_
      refine WQ.skip rfl rfl rfl ?_
      refine WQ.skip rfl rfl rfl ?_
      refine WQ.skip rfl rfl rfl ?_
      refine WQ.skip rfl rfl rfl ?_
      refine WQ.skip rfl rfl rfl ?_
      refine WQ.skip rfl rfl rfl ?_
      refine WQ.skip rfl rfl rfl ?_
      refine WQ.skip rfl rfl rfl ?_
      refine WQ.skip rfl rfl rfl ?_
      refine WQ.skip rfl rfl rfl ?_
      refine WQ.skip rfl rfl rfl ?_
      refine WQ.skip rfl rfl rfl ?_
      refine WQ.skip rfl rfl rfl ?_
      refine WQ.skip rfl rfl rfl ?_
      refine WQ.skip rfl rfl rfl ?_
      refine WQ.q (oq_pick_f rfl rfl) rfl rfl rfl ?_
      refine WQ.q (oq_pick_f rfl rfl) rfl rfl rfl ?_
      refine WQ.q (oq_move rfl) rfl rfl rfl ?_
      refine WQ.q (oq_fieldAddr fld23_0 rfl) rfl rfl rfl ?_
      refine WQ.q (oq_load flat3 rfl (.head _) (List.mem_singleton.2 rfl) rfl) rfl rfl rfl ?_
      refine WQ.q (oq_eql rfl rfl) rfl rfl rfl ?_
      refine WQ.q (oq_move rfl) rfl rfl rfl ?_
      refine WQ.split 65 rfl (fun s6_46 => ?_) (fun s6_46 => ?_)
      ·
       try simp only [Z1, Z2, Z3, Z4, Z5, Z6, Z7, Z8, Z9, Z0] at s6_46
       refine WQ.q (oq_fieldAddr fld23_3 rfl) rfl rfl rfl ?_
       refine WQ.q (oq_load flat9 rfl (.head _) (List.mem_singleton.2 rfl) rfl) rfl rfl rfl ?_
       refine WQ.q (oq_len_s Tryz.underlying9 rfl) rfl rfl rfl ?_
       refine WQ.q (oq_neq rfl rfl) rfl rfl rfl ?_
       refine WQ.q (oq_pick_t rfl rfl) rfl rfl rfl ?_
       refine WQ.q (oq_pick_f rfl rfl) rfl rfl rfl ?_
       refine WQ.q (oq_move rfl) rfl rfl rfl ?_
       refine WQ.split 72 rfl (fun s6_53 => ?_) (fun s6_53 => ?_)
       ·
        try simp only [Z1, Z2, Z3, Z4, Z5, Z6, Z7, Z8, Z9, Z0] at s6_53
        refine WQ.skip rfl rfl rfl ?_
        refine WQ.skip rfl rfl rfl ?_
        refine WQ.skip rfl rfl rfl ?_
        refine WQ.skip rfl rfl rfl ?_
        refine WQ.skip rfl rfl rfl ?_
        refine WQ.skip rfl rfl rfl ?_
        refine WQ.skip rfl rfl rfl ?_
        refine WQ.skip rfl rfl rfl ?_
        refine WQ.skip rfl rfl rfl ?_
        refine WQ.skip rfl rfl rfl ?_
        refine WQ.skip rfl rfl rfl ?_
        refine WQ.skip rfl rfl rfl ?_
        refine WQ.skip rfl rfl rfl ?_
        refine WQ.q (oq_pick_t rfl rfl) rfl rfl rfl ?_
        refine WQ.nil (WE.then_normal (WC.sub (fr' := [(0, _), (3, _), (86, _)]) ?_ ⟨rfl, rfl, rfl, trivial⟩))
        refine WC.cond_t rfl ?_
        refine WC.seq (WC.region ?_)
        refine WL.q (oq_assign rfl) rfl rfl rfl ?_
        refine WL.nil (WE.then_normal (WC.sub (fr' := [(2, _)]) ?_ ⟨rfl, trivial⟩))
        refine WC.ret (WE.block_ret (WE.then_ret (WE.then_ret (WE.block_ret (WE.then_ret ?_)))))
        refine WE.lose ho4 ?_
        refine WE.endR (.inl rfl) (res1 Tryz.results5 rfl) ?_
        exact congrArg Value.bool (all_not hlt (decide_eq_false (by unfold fineV; omega))).symm
       ·
        try simp only [Z1, Z2, Z3, Z4, Z5, Z6, Z7, Z8, Z9, Z0] at s6_53
        refine WQ.q (oq_fieldAddr fld23_0 rfl) rfl rfl rfl ?_
        refine WQ.q (oq_load flat3 rfl (.head _) (List.mem_singleton.2 rfl) rfl) rfl rfl rfl ?_
        refine WQ.q (oq_eql rfl rfl) rfl rfl rfl ?_
        refine WQ.q (oq_move rfl) rfl rfl rfl ?_
        refine WQ.split 76 rfl (fun s6_57 => ?_) (fun s6_57 => ?_)
        ·
         try simp only [Z1, Z2, Z3, Z4, Z5, Z6, Z7, Z8, Z9, Z0] at s6_57
         refine WQ.q (oq_fieldAddr fld23_2 rfl) rfl rfl rfl ?_
         refine WQ.q (oq_load flat2 rfl (.head _) (List.mem_singleton.2 rfl) rfl) rfl rfl rfl ?_
         refine WQ.q (oq_gtr rfl rfl) rfl rfl rfl ?_
         refine WQ.q (oq_move rfl) rfl rfl rfl ?_
         refine WQ.split 80 rfl (fun s6_61 => ?_) (fun s6_61 => ?_)
         ·
          try simp only [Z1, Z2, Z3, Z4, Z5, Z6, Z7, Z8, Z9, Z0] at s6_61
          refine WQ.skip rfl rfl rfl ?_
          refine WQ.skip rfl rfl rfl ?_
          refine WQ.skip rfl rfl rfl ?_
          refine WQ.q (oq_pick_t rfl rfl) rfl rfl rfl ?_
          refine WQ.q (oq_pick_t rfl rfl) rfl rfl rfl ?_
          refine WQ.q (oq_pick_f rfl rfl) rfl rfl rfl ?_
          refine WQ.nil (WE.then_normal (WC.sub (fr' := [(0, _), (3, _), (86, _)]) ?_ ⟨rfl, rfl, rfl, trivial⟩))
          refine WC.cond_t rfl ?_
          refine WC.seq (WC.region ?_)
          refine WL.q (oq_assign rfl) rfl rfl rfl ?_
          refine WL.nil (WE.then_normal (WC.sub (fr' := [(2, _)]) ?_ ⟨rfl, trivial⟩))
          refine WC.ret (WE.block_ret (WE.then_ret (WE.then_ret (WE.block_ret (WE.then_ret ?_)))))
          refine WE.lose ho4 ?_
          refine WE.endR (.inl rfl) (res1 Tryz.results5 rfl) ?_
          exact congrArg Value.bool (all_not hlt (decide_eq_false (by unfold fineV; omega))).symm
         ·
          try simp only [Z1, Z2, Z3, Z4, Z5, Z6, Z7, Z8, Z9, Z0] at s6_61
          refine WQ.q (oq_fieldAddr fld23_2 rfl) rfl rfl rfl ?_
          refine WQ.q (oq_load flat2 rfl (.head _) (List.mem_singleton.2 rfl) rfl) rfl rfl rfl ?_
          refine WQ.q (oq_lss rfl rfl) rfl rfl rfl ?_
          refine WQ.q (oq_pick_f rfl rfl) rfl rfl rfl ?_
          refine WQ.q (oq_pick_t rfl rfl) rfl rfl rfl ?_
          refine WQ.q (oq_pick_f rfl rfl) rfl rfl rfl ?_
          refine WQ.nil (WE.then_normal (WC.sub (fr' := [(0, _), (3, _), (86, _)]) ?_ ⟨rfl, rfl, rfl, trivial⟩))
          refine WC.cond rfl (fun q6 => ?_) (fun q6 => ?_)
          ·
           try simp only [Z1, Z2, Z3, Z4, Z5, Z6, Z7, Z8, Z9, Z0] at q6
           refine WC.seq (WC.region ?_)
           refine WL.q (oq_assign rfl) rfl rfl rfl ?_
           refine WL.nil (WE.then_normal (WC.sub (fr' := [(2, _)]) ?_ ⟨rfl, trivial⟩))
           refine WC.ret (WE.block_ret (WE.then_ret (WE.then_ret (WE.block_ret (WE.then_ret ?_)))))
           refine WE.lose ho4 ?_
           refine WE.endR (.inl rfl) (res1 Tryz.results5 rfl) ?_
           exact congrArg Value.bool (all_not hlt (decide_eq_false (by unfold fineV; omega))).symm
          ·
           try simp only [Z1, Z2, Z3, Z4, Z5, Z6, Z7, Z8, Z9, Z0] at q6
           refine WC.skip (WE.block_normal (WE.then_normal (WC.sub (fr' := [(0, _), (3, _)]) ?_ ⟨rfl, rfl, trivial⟩)))
           refine WC.region ?_
           refine WL.q (oq_move rfl) rfl rfl rfl ?_
           refine WL.q (oq_add rfl rfl (by rw [i64_lo, i64_hi]; (first | omega | (simp only [List.length_cons, List.length_nil, List.length_append, List.length_drop, List.length_take]; omega)))) rfl rfl rfl ?_
           refine WL.q (oq_assign rfl) rfl rfl rfl ?_
           refine WL.nil ?_
           refine WE.lose ho4 ?_
           refine WE.again (i + 1) ?_ ?_ ⟨rfl, rfl, trivial⟩ (List.Perm.refl _)
           ·try dsimp only
            exact ⟨by omega, all_snoc (by omega) hall (decide_eq_true (by unfold fineV; omega))⟩
           ·(try dsimp only); omega
        ·
         try simp only [Z1, Z2, Z3, Z4, Z5, Z6, Z7, Z8, Z9, Z0] at s6_57
         refine WQ.skip rfl rfl rfl ?_
         refine WQ.skip rfl rfl rfl ?_
         refine WQ.skip rfl rfl rfl ?_
         refine WQ.skip rfl rfl rfl ?_
         refine WQ.skip rfl rfl rfl ?_
         refine WQ.skip rfl rfl rfl ?_
         refine WQ.skip rfl rfl rfl ?_
         refine WQ.skip rfl rfl rfl ?_
         refine WQ.q (oq_pick_f rfl rfl) rfl rfl rfl ?_
         refine WQ.q (oq_pick_f rfl rfl) rfl rfl rfl ?_
         refine WQ.nil (WE.then_normal (WC.sub (fr' := [(0, _), (3, _), (86, _)]) ?_ ⟨rfl, rfl, rfl, trivial⟩))
         refine WC.cond_f rfl ?_
         refine WC.skip (WE.block_normal (WE.then_normal (WC.sub (fr' := [(0, _), (3, _)]) ?_ ⟨rfl, rfl, trivial⟩)))
         refine WC.region ?_
         refine WL.q (oq_move rfl) rfl rfl rfl ?_
         refine WL.q (oq_add rfl rfl (by rw [i64_lo, i64_hi]; (first | omega | (simp only [List.length_cons, List.length_nil, List.length_append, List.length_drop, List.length_take]; omega)))) rfl rfl rfl ?_
         refine WL.q (oq_assign rfl) rfl rfl rfl ?_
         refine WL.nil ?_
         refine WE.lose ho4 ?_
         refine WE.again (i + 1) ?_ ?_ ⟨rfl, rfl, trivial⟩ (List.Perm.refl _)
         ·try dsimp only
          exact ⟨by omega, all_snoc (by omega) hall (decide_eq_true (by unfold fineV; omega))⟩
         ·(try dsimp only); omega
      ·
       try simp only [Z1, Z2, Z3, Z4, Z5, Z6, Z7, Z8, Z9, Z0] at s6_46
       refine WQ.skip rfl rfl rfl ?_
       refine WQ.skip rfl rfl rfl ?_
       refine WQ.skip rfl rfl rfl ?_
       refine WQ.skip rfl rfl rfl ?_
       refine WQ.q (oq_pick_f rfl rfl) rfl rfl rfl ?_
       refine WQ.q (oq_pick_f rfl rfl) rfl rfl rfl ?_
       refine WQ.q (oq_move rfl) rfl rfl rfl ?_
       refine WQ.q (oq_fieldAddr fld23_0 rfl) rfl rfl rfl ?_
       refine WQ.q (oq_load flat3 rfl (.head _) (List.mem_singleton.2 rfl) rfl) rfl rfl rfl ?_
       refine WQ.q (oq_eql rfl rfl) rfl rfl rfl ?_
       refine WQ.q (oq_move rfl) rfl rfl rfl ?_
       refine WQ.split 76 rfl (fun s6_57 => ?_) (fun s6_57 => ?_)
       ·
        try simp only [Z1, Z2, Z3, Z4, Z5, Z6, Z7, Z8, Z9, Z0] at s6_57
        refine WQ.q (oq_fieldAddr fld23_2 rfl) rfl rfl rfl ?_
        refine WQ.q (oq_load flat2 rfl (.head _) (List.mem_singleton.2 rfl) rfl) rfl rfl rfl ?_
        refine WQ.q (oq_gtr rfl rfl) rfl rfl rfl ?_
        refine WQ.q (oq_move rfl) rfl rfl rfl ?_
        refine WQ.split 80 rfl (fun s6_61 => ?_) (fun s6_61 => ?_)
        ·
         try simp only [Z1, Z2, Z3, Z4, Z5, Z6, Z7, Z8, Z9, Z0] at s6_61
         refine WQ.skip rfl rfl rfl ?_
         refine WQ.skip rfl rfl rfl ?_
         refine WQ.skip rfl rfl rfl ?_
         refine WQ.q (oq_pick_t rfl rfl) rfl rfl rfl ?_
         refine WQ.q (oq_pick_t rfl rfl) rfl rfl rfl ?_
         refine WQ.q (oq_pick_f rfl rfl) rfl rfl rfl ?_
         refine WQ.nil (WE.then_normal (WC.sub (fr' := [(0, _), (3, _), (86, _)]) ?_ ⟨rfl, rfl, rfl, trivial⟩))
         refine WC.cond_t rfl ?_
         refine WC.seq (WC.region ?_)
         refine WL.q (oq_assign rfl) rfl rfl rfl ?_
         refine WL.nil (WE.then_normal (WC.sub (fr' := [(2, _)]) ?_ ⟨rfl, trivial⟩))
         refine WC.ret (WE.block_ret (WE.then_ret (WE.then_ret (WE.block_ret (WE.then_ret ?_)))))
         refine WE.lose ho4 ?_
         refine WE.endR (.inl rfl) (res1 Tryz.results5 rfl) ?_
         exact congrArg Value.bool (all_not hlt (decide_eq_false (by unfold fineV; omega))).symm
        ·
         try simp only [Z1, Z2, Z3, Z4, Z5, Z6, Z7, Z8, Z9, Z0] at s6_61
         refine WQ.q (oq_fieldAddr fld23_2 rfl) rfl rfl rfl ?_
         refine WQ.q (oq_load flat2 rfl (.head _) (List.mem_singleton.2 rfl) rfl) rfl rfl rfl ?_
         refine WQ.q (oq_lss rfl rfl) rfl rfl rfl ?_
         refine WQ.q (oq_pick_f rfl rfl) rfl rfl rfl ?_
         refine WQ.q (oq_pick_t rfl rfl) rfl rfl rfl ?_
         refine WQ.q (oq_pick_f rfl rfl) rfl rfl rfl ?_
         refine WQ.nil (WE.then_normal (WC.sub (fr' := [(0, _), (3, _), (86, _)]) ?_ ⟨rfl, rfl, rfl, trivial⟩))
         refine WC.cond rfl (fun q6 => ?_) (fun q6 => ?_)
         ·
          try simp only [Z1, Z2, Z3, Z4, Z5, Z6, Z7, Z8, Z9, Z0] at q6
          refine WC.seq (WC.region ?_)
          refine WL.q (oq_assign rfl) rfl rfl rfl ?_
          refine WL.nil (WE.then_normal (WC.sub (fr' := [(2, _)]) ?_ ⟨rfl, trivial⟩))
          refine WC.ret (WE.block_ret (WE.then_ret (WE.then_ret (WE.block_ret (WE.then_ret ?_)))))
          refine WE.lose ho4 ?_
          refine WE.endR (.inl rfl) (res1 Tryz.results5 rfl) ?_
          exact congrArg Value.bool (all_not hlt (decide_eq_false (by unfold fineV; omega))).symm
         ·
          try simp only [Z1, Z2, Z3, Z4, Z5, Z6, Z7, Z8, Z9, Z0] at q6
          refine WC.skip (WE.block_normal (WE.then_normal (WC.sub (fr' := [(0, _), (3, _)]) ?_ ⟨rfl, rfl, trivial⟩)))
          refine WC.region ?_
          refine WL.q (oq_move rfl) rfl rfl rfl ?_
          refine WL.q (oq_add rfl rfl (by rw [i64_lo, i64_hi]; (first | omega | (simp only [List.length_cons, List.length_nil, List.length_append, List.length_drop, List.length_take]; omega)))) rfl rfl rfl ?_
          refine WL.q (oq_assign rfl) rfl rfl rfl ?_
          refine WL.nil ?_
          refine WE.lose ho4 ?_
          refine WE.again (i + 1) ?_ ?_ ⟨rfl, rfl, trivial⟩ (List.Perm.refl _)
          ·try dsimp only
           exact ⟨by omega, all_snoc (by omega) hall (decide_eq_true (by unfold fineV; omega))⟩
          ·(try dsimp only); omega
       ·
        try simp only [Z1, Z2, Z3, Z4, Z5, Z6, Z7, Z8, Z9, Z0] at s6_57
        refine WQ.skip rfl rfl rfl ?_
        refine WQ.skip rfl rfl rfl ?_
        refine WQ.skip rfl rfl rfl ?_
        refine WQ.skip rfl rfl rfl ?_
        refine WQ.skip rfl rfl rfl ?_
        refine WQ.skip rfl rfl rfl ?_
        refine WQ.skip rfl rfl rfl ?_
        refine WQ.skip rfl rfl rfl ?_
        refine WQ.q (oq_pick_f rfl rfl) rfl rfl rfl ?_
        refine WQ.q (oq_pick_f rfl rfl) rfl rfl rfl ?_
        refine WQ.nil (WE.then_normal (WC.sub (fr' := [(0, _), (3, _), (86, _)]) ?_ ⟨rfl, rfl, rfl, trivial⟩))
        refine WC.cond_f rfl ?_
        refine WC.skip (WE.block_normal (WE.then_normal (WC.sub (fr' := [(0, _), (3, _)]) ?_ ⟨rfl, rfl, trivial⟩)))
        refine WC.region ?_
        refine WL.q (oq_move rfl) rfl rfl rfl ?_
        refine WL.q (oq_add rfl rfl (by rw [i64_lo, i64_hi]; (first | omega | (simp only [List.length_cons, List.length_nil, List.length_append, List.length_drop, List.length_take]; omega)))) rfl rfl rfl ?_
        refine WL.q (oq_assign rfl) rfl rfl rfl ?_
        refine WL.nil ?_
        refine WE.lose ho4 ?_
        refine WE.again (i + 1) ?_ ?_ ⟨rfl, rfl, trivial⟩ (List.Perm.refl _)
        ·try dsimp only
         exact ⟨by omega, all_snoc (by omega) hall (decide_eq_true (by unfold fineV; omega))⟩
        ·(try dsimp only); omega
  ·
   try simp only [Z1, Z2, Z3, Z4, Z5, Z6, Z7, Z8, Z9, Z0] at q2
   refine WC.exit (WE.then_exit (WE.then_exit (WE.block_same (WE.then_normal (WC.sub (fr' := []) ?_ trivial)))))
   refine WC.seq (WC.region ?_)
   refine WL.q (oq_assign rfl) rfl rfl rfl ?_
   refine WL.nil (WE.then_normal (WC.sub (fr' := [(2, _)]) ?_ ⟨rfl, trivial⟩))
   refine WC.ret ?_
   refine WE.endR (.inl rfl) (res1 Tryz.results5 rfl) ?_
   obtain rfl : i = l.length := by omega
   rw [List.take_length] at hall
   rw [hall]
end ER
end Go.Proofs.YtinkaobaboffcaaGreatDoor
/- The law: what is written is what the reference tells. -/
namespace Go.Proofs.YtinkaobaboffcaaGreatDoor
open Go Go.RowKit V EA EB EC ED EE EF EG EH EI EJ EK EL EM EN EO EP EQ ER
set_option linter.unusedSimpArgs false
set_option linter.unusedVariables false
set_option maxRecDepth 10000
namespace ES
theorem call9 : Callable Tryz.prog 9 := ⟨_, Tryz.func9, rfl, by kernel_rfl⟩
theorem ty35 : Ty Tryz.prog 35 (.agg #[(.slice none 0 0), (.slice none 0 0)]) 2 48 := ty_of (by kernel_rfl)
theorem str35 : Str Tryz.prog 35 #[(0, 1), (1, 1)] := ⟨_, Tryz.underlying35, fun w => by kernel_rfl⟩
theorem okH0 : okH [] := fun i h => nomatch h
theorem len16 : (msgB [] []).length = 16 := by unfold msgB msg0 crcB; rw [List.length_append, List.length_append, List.length_append, pre12_len, be_len]; rfl
theorem rd0 (s : Nat) : RdS s (.slice none 0 0) [] 0 [] := ⟨by simp, .inl ⟨rfl, _, _, rfl⟩⟩
theorem enc0 : FnA Tryz.prog 9 [.agg #[.slice none 0 0, .slice none 0 0]] [] (fun w N => ∃ sv, w = .tuple #[sv, .bool true] ∧ RdS 1 sv N 16 (bytesV (msgB [] []))) := by
 refine (vEncode (.slice none 0 0) [] [] (rd0 5) okH0 (by simp) (by simp [szL]) none 0 [] (rd0 1) (by simp)).mono ?_
 rintro w N ⟨sv, rfl, h⟩
 refine ⟨sv, rfl, ?_⟩
 have h2 : RdS 1 sv N (msgB [] []).length (bytesV (msgB [] [])) := h
 rw [len16] at h2; exact h2
theorem vAwake  : Fn0 Tryz.prog 6 [] (.bool true) := by
 refine Fn0.enter (n := 14) Tryz.func6 rfl rfl fun w0 => ?_
 refine WC.sub (fr' := []) ?_ trivial
 refine WC.seq (WC.region ?_)
 refine WL.q (oq_assign rfl) rfl rfl rfl ?_
 refine WL.nil (WE.then_normal (WC.sub (fr' := []) ?_ trivial))
 refine WC.seq (WC.region ?_)
 refine WL.q (oq_build #[_, _] str35 ty35 rfl rfl) rfl rfl rfl ?_
 refine WL.callA0 (enc0) call9 rfl rfl rfl fun v1_1 N1_1 hR1_1 hN1_1 => ?_
 obtain ⟨sv, rfl, hsv⟩ := hR1_1
 refine WL.q (oq_move rfl) rfl rfl rfl ?_
 refine WL.q (oq_extract rfl rfl) rfl rfl rfl ?_
 refine WL.q (oq_extract rfl rfl) rfl rfl rfl ?_
 refine WL.q (oq_assign rfl) rfl rfl rfl ?_
 refine WL.q (oq_assign rfl) rfl rfl rfl ?_
 refine WL.nil (WE.then_normal (WC.sub (fr' := [(1, _), (2, _)]) ?_ ⟨rfl, rfl, trivial⟩))
 refine WC.seq (WC.region ?_)
 refine WL.q (oq_move rfl) rfl rfl rfl ?_
 refine WL.q (oq_move rfl) rfl rfl rfl ?_
 refine WL.q (oq_move rfl) rfl rfl rfl ?_
 refine WL.q (oq_len_rd hsv Tryz.underlying31 rfl) rfl rfl rfl ?_
 refine WL.q (oq_eql rfl rfl) rfl rfl rfl ?_
 refine WL.q (oq_pick_t rfl rfl) rfl rfl rfl ?_
 refine WL.q (oq_assign rfl) rfl rfl rfl ?_
 refine WL.nil (WE.then_normal (WC.sub (fr' := [(0, _)]) ?_ ⟨rfl, trivial⟩))
 refine WC.ret ?_
 refine WE.forget hN1_1 ?_
 refine WE.end0 (.inl rfl) (res1 Tryz.results6 rfl) ?_
 rfl
end ES
end Go.Proofs.YtinkaobaboffcaaGreatDoor
