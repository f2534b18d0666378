/- Around the reading of an address. -/
import Derived.Test.YtefaegocllppkaaDoorQ2
import Derived.Test.YtefaegocllppkaaDoorQ0
import Derived.Lay
import Derived.Test.YtefaegocllppkaaDoorRows
import Derived.Lib.LaidTab
import Derived.LaidLaws
import Derived.LaidHandle
import Derived.MakeChecks
namespace Go.Proofs.YtefaegocllppkaaDoor
open Go Go.RowKit V L0 L1 L2 M0 M1 M2 M3 M4 M5
set_option linter.unusedSimpArgs false
set_option linter.unusedVariables false
set_option maxRecDepth 10000
namespace M6
theorem call15 : Callable Tryd.prog 15 := ⟨_, Tryd.func15, rfl, by kernel_rfl⟩
theorem call22 : Callable Tryd.prog 22 := ⟨_, Tryd.func22, rfl, by kernel_rfl⟩
theorem call23 : Callable Tryd.prog 23 := ⟨_, Tryd.func23, rfl, by kernel_rfl⟩
theorem call27 : Callable Tryd.prog 27 := ⟨_, Tryd.func27, rfl, by kernel_rfl⟩
theorem call30 : Callable Tryd.prog 30 := ⟨_, Tryd.func30, rfl, by kernel_rfl⟩
theorem call31 : Callable Tryd.prog 31 := ⟨_, Tryd.func31, rfl, by kernel_rfl⟩
theorem call47 : Callable Tryd.prog 47 := ⟨_, Tryd.func47, rfl, by kernel_rfl⟩
theorem call66 : Callable Tryd.prog 66 := ⟨_, Tryd.func66, rfl, by kernel_rfl⟩
theorem flat9 : Flat Tryd.prog 9 := ⟨_, Tryd.underlying9, by simp⟩
theorem ty5 : Ty Tryd.prog 5 (.int .u8 0) 1 1 := ty_of (by kernel_rfl)
theorem ty9 : Ty Tryd.prog 9 (S []) 1 16 := ty_of (by kernel_rfl)
theorem fld44_3 : Fld Tryd.prog 44 3 3 9 := fld_of Tryd.underlying44 rfl rfl rfl ty9 (by decide)
def prt (au : List UInt8) : List UInt8 := if lidx 58 au au.length = -1 then [] else au.drop (lidx 58 au au.length + 1).toNat
theorem col2 {sc au pa qq h : List UInt8} (hu : UOk sc au pa qq h) : (lidx 58 au au.length = -1 ∧ au = h) ∨ (0 ≤ lidx 58 au au.length ∧ (lidx 58 au au.length).toNat + 1 ≤ au.length ∧ PortOk (au.drop (lidx 58 au au.length).toNat) ∧ au.take (lidx 58 au au.length).toNat = h) := by
 obtain ⟨pp, rfl, hpp⟩ := hu.port
 have hn : (58 : UInt8) ∉ h := fun e => hset_no _ (mem_set hu.host.2 e) rfl
 rcases hpp with rfl | ⟨d, rfl, hd0, hd⟩
 ·left; rw [List.append_nil]; exact ⟨lidx_no hn _ (Nat.le_refl _), rfl⟩
 ·right
  have hd2 : (58 : UInt8) ∉ d := fun e => dset_no _ (mem_set hd e) rfl
  rw [lidx_all hd2]
  refine ⟨by omega, by simp, ?_, by simp⟩
  rw [Int.toNat_natCast, List.drop_left]
  exact .inr ⟨d, rfl, hd0, hd⟩
theorem h_mem {sc au pa qq h : List UInt8} (hu : UOk sc au pa qq h) : ∀ c ∈ h, c ∈ HSET := fun c hc => mem_set hu.host.2 hc
theorem h_le {sc au pa qq h : List UInt8} (hu : UOk sc au pa qq h) : h.length ≤ au.length := by
 obtain ⟨pp, rfl, _⟩ := hu.port; rw [List.length_append]; omega
theorem h91 {sc au pa qq h : List UInt8} (hu : UOk sc au pa qq h) : (91 : UInt8) ∉ h := fun e => (host_sub _ (.tail _ (h_mem hu _ e))).2.2.2.1 rfl
theorem h37 {sc au pa qq h : List UInt8} (hu : UOk sc au pa qq h) : (37 : UInt8) ∉ h := fun e => (host_sub _ (.tail _ (h_mem hu _ e))).2.1 rfl
theorem hasPreN (s p : List UInt8) (hs : s.length ≤ 4000000000) (hp : p.length ≤ 4000000000) (h : ¬ s.take p.length = p) : Fn0 Tryd.prog 15 [S s, S p] (.bool false) := by
 have := hasPre s p hs hp; rwa [decide_eq_false h] at this
theorem slbNo (s : List UInt8) (c : Int) (k : UInt8) (hk : c = (k.toNat : Int)) (hs : s.length ≤ 4000000000) (h : k ∉ s) : Fn0 Tryd.prog 31 [S s, .int .u8 c] (I (-1)) := by
 have := slbyte s c k hk hs; rwa [lidx_no h _ (Nat.le_refl _)] at this
theorem pre1 {s : List UInt8} {c : UInt8} (h : c ∉ s) : ¬ s.take ([c] : List UInt8).length = [c] := fun e => h (by
 cases s with
 | nil => simp at e
 | cons x r => simp at e; rw [e]; exact .head _)
theorem parseU (G : Hp) (hG : Tb G) {sc au pa qq h : List UInt8} (hu : UOk sc au pa qq h) (hal : (UT sc au pa qq).length ≤ 100000) : FnA Tryd.prog 14 [S (UT sc au pa qq)] G (fun v N => ∃ p rp, v = .tuple #[Pt p 0, .nilIface] ∧ N = UC p sc au pa qq.tail rp) := by
 refine FnA.enter (n := 41) Tryd.func14 rfl rfl fun w0 => ?_
 refine WC.sub (fr' := [(0, _)]) ?_ ⟨rfl, trivial⟩
 refine WC.seq (WC.region ?_)
 refine WL.q (oq_assign rfl) rfl rfl rfl ?_
 refine WL.q (oq_assign rfl) rfl rfl rfl ?_
 refine WL.nil (WE.then_normal (WC.sub (fr' := [(0, _)]) ?_ ⟨rfl, trivial⟩))
 refine WC.seq (WC.region ?_)
 refine WL.q (oq_move rfl) rfl rfl rfl ?_
 refine WL.qc (oq_call (nCutH hu hal) call22 rfl) rfl rfl rfl ?_
 refine WL.q (oq_move rfl) rfl rfl rfl ?_
 refine WL.q (oq_extract rfl rfl) rfl rfl rfl ?_
 refine WL.q (oq_extract rfl rfl) rfl rfl rfl ?_
 refine WL.q (oq_extract rfl rfl) rfl rfl rfl ?_
 refine WL.q (oq_assign rfl) rfl rfl rfl ?_
 refine WL.q (oq_assign rfl) rfl rfl rfl ?_
 refine WL.q (oq_assign rfl) rfl rfl rfl ?_
 refine WL.nil (WE.then_normal (WC.sub (fr' := [(0, _), (4, _), (5, _)]) ?_ ⟨rfl, rfl, rfl, trivial⟩))
 refine WC.seq (WC.region ?_)
 refine WL.q (oq_move rfl) rfl rfl rfl ?_
 refine WL.callA (parse G hG hu hal) call23 rfl rfl rfl fun v2_1 N2_1 hR2_1 hN2_1 => ?_
 obtain ⟨p, rp, rfl, rfl⟩ := hR2_1
 refine WL.q (oq_move rfl) rfl rfl rfl ?_
 refine WL.q (oq_extract rfl rfl) rfl rfl rfl ?_
 refine WL.q (oq_extract rfl rfl) rfl rfl rfl ?_
 refine WL.q (oq_assign rfl) rfl rfl rfl ?_
 refine WL.q (oq_assign rfl) rfl rfl rfl ?_
 refine WL.nil (WE.then_normal (WC.sub (fr' := [(0, _), (4, _), (5, _), (7, _), (8, _)]) ?_ ⟨rfl, rfl, rfl, rfl, rfl, trivial⟩))
 refine WC.seq (WC.seq (WC.region ?_))
 refine WL.q (oq_move rfl) rfl rfl rfl ?_
 refine WL.q (oq_ineq Tryd.underlying39 rfl (.inl rfl)) rfl rfl rfl ?_
 refine WL.nil (WE.then_normal (WC.sub (fr' := [(0, _), (4, _), (5, _), (7, _), (8, _), (21, _)]) ?_ ⟨rfl, rfl, rfl, rfl, rfl, rfl, trivial⟩))
 refine WC.cond rfl (fun q3 => ?_) (fun q3 => ?_)
 ·
  try simp only [Z1, Z2, Z3, Z4, Z5, Z6, Z7, Z8, Z9, Z0] at q3
  refine WC.seq ?_
  first | contradiction | omega | (exfalso; simp_all; done)
 ·
  try simp only [Z1, Z2, Z3, Z4, Z5, Z6, Z7, Z8, Z9, Z0] at q3
  refine WC.skip (WE.then_normal (WC.sub (fr' := [(0, _), (5, _), (7, _)]) ?_ ⟨rfl, rfl, rfl, trivial⟩))
  refine WC.seq (WC.seq (WC.region ?_))
  refine WL.q (oq_move rfl) rfl rfl rfl ?_
  refine WL.q (oq_seql rfl rfl) rfl rfl rfl ?_
  refine WL.nil (WE.then_normal (WC.sub (fr' := [(0, _), (5, _), (7, _), (28, _)]) ?_ ⟨rfl, rfl, rfl, rfl, trivial⟩))
  refine WC.cond rfl (fun q5 => ?_) (fun q5 => ?_)
  ·
   try simp only [Z1, Z2, Z3, Z4, Z5, Z6, Z7, Z8, Z9, Z0] at q5
   refine WC.seq (WC.region ?_)
   refine WL.q (oq_move rfl) rfl rfl rfl ?_
   refine WL.q (oq_assign rfl) rfl rfl rfl ?_
   refine WL.q (oq_assign rfl) rfl rfl rfl ?_
   refine WL.nil (WE.then_normal (WC.sub (fr' := [(2, _), (3, _)]) ?_ ⟨rfl, rfl, trivial⟩))
   refine WC.ret (WE.then_ret ?_)
   refine WE.endA (.inl rfl) (res2 Tryd.results14 rfl rfl) ?_ (hN2_1)
   exact ⟨_, _, rfl, rfl⟩
  ·
   try simp only [Z1, Z2, Z3, Z4, Z5, Z6, Z7, Z8, Z9, Z0] at q5
   refine WC.skip (WE.then_normal (WC.sub (fr' := [(0, _), (5, _), (7, _)]) ?_ ⟨rfl, rfl, rfl, trivial⟩))
   refine WC.seq (WC.seq ?_)
   first | contradiction | omega | (exfalso; simp_all; done)
theorem replAll (s : List UInt8) (h37 : (37 : UInt8) ∉ s) (hs : s.length ≤ 100000) : FnA Tryd.prog 17 [S s, S [37], S [37, 50, 53]] [] (fun v N => v = S s) := by
 refine FnA.enter0 (n := 67) Tryd.func17 rfl rfl fun w0 => ?_
 refine WC.sub (fr' := [(0, _), (1, _), (2, _)]) ?_ ⟨rfl, rfl, rfl, trivial⟩
 refine WC.seq (WC.region ?_)
 refine WL.q (oq_assign rfl) rfl rfl rfl ?_
 refine WL.nil (WE.then_normal (WC.sub (fr' := [(0, _), (1, _), (2, _)]) ?_ ⟨rfl, rfl, rfl, trivial⟩))
 refine WC.seq ?_
 refine WC.add0 ?_
 refine WC.region ?_
 refine WL.q (oq_assign rfl) rfl rfl rfl ?_
 refine WL.nil (WE.then_normal (WC.sub (fr' := [(0, _), (1, _), (2, _), (7, _)]) ?_ ⟨rfl, rfl, rfl, rfl, trivial⟩))
 refine WC.seq (WC.seq (WC.region ?_))
 refine WL.q (oq_move rfl) rfl rfl rfl ?_
 refine WL.q (oq_len_s Tryd.underlying9 rfl) rfl rfl rfl ?_
 refine WL.q (oq_eql rfl rfl) rfl rfl rfl ?_
 refine WL.nil (WE.then_normal (WC.sub (fr' := [(0, _), (1, _), (2, _), (7, _), (13, _)]) ?_ ⟨rfl, rfl, rfl, rfl, rfl, trivial⟩))
 refine WC.cond rfl (fun q2 => ?_) (fun q2 => ?_)
 ·
  try simp only [Z1, Z2, Z3, Z4, Z5, Z6, Z7, Z8, Z9, Z0] at q2
  refine WC.seq ?_
  first | contradiction | omega | (exfalso; simp_all; done)
 ·
  try simp only [Z1, Z2, Z3, Z4, Z5, Z6, Z7, Z8, Z9, Z0] at q2
  refine WC.skip (WE.then_normal (WC.sub (fr' := [(0, _), (1, _), (2, _), (7, _)]) ?_ ⟨rfl, rfl, rfl, rfl, trivial⟩))
  refine WC.block ?_
  refine WC.loop (ι := Value × Hp) (fun i_ => (fun (u : Value) (B : Hp) => [(0, S s), (1, S [37]), (2, S [37, 50, 53]), (7, u)]) i_.1 i_.2) (fun i_ => (fun (u : Value) (B : Hp) => [B]) i_.1 i_.2) (fun i_ => (fun (u : Value) (B : Hp) => OwS w0.heap.size 5 1 u B 0 [] ∧ True) i_.1 i_.2) (fun i_ => (fun (u : Value) (B : Hp) => 0) i_.1 i_.2) ((_, _)) ?_ ⟨rfl, rfl, rfl, rfl, trivial⟩ (List.Perm.refl _) ?_
  ·try dsimp only
   exact ⟨OwS.nil _ _ _, trivial⟩
  ·rintro ⟨u, B⟩ hp
   try dsimp only at hp
   obtain ⟨ho, _⟩ := hp
   show WC _ _ _ _ _ _ ([(0, S s), (1, S [37]), (2, S [37, 50, 53]), (7, u)]) ([B])
   refine WC.block (WC.seq (WC.region ?_))
   refine WL.q (oq_move rfl) rfl rfl rfl ?_
   refine WL.q (oq_move rfl) rfl rfl rfl ?_
   refine WL.qc (oq_call (zzIndex s [37] (by omega) (by decide)) call27 rfl) rfl rfl rfl ?_
   refine WL.q (oq_assign rfl) rfl rfl rfl ?_
   refine WL.nil (WE.then_normal (WC.sub (fr' := [(0, _), (1, _), (2, _), (7, _), (10, _)]) ?_ ⟨rfl, rfl, rfl, rfl, rfl, trivial⟩))
   refine WC.seq (WC.seq (WC.region ?_))
   refine WL.q (oq_move rfl) rfl rfl rfl ?_
   refine WL.q (oq_lss rfl rfl) rfl rfl rfl ?_
   refine WL.nil (WE.then_normal (WC.sub (fr' := [(0, _), (1, _), (2, _), (7, _), (10, _), (49, _)]) ?_ ⟨rfl, rfl, rfl, rfl, rfl, rfl, trivial⟩))
   refine WC.cond rfl (fun q15 => ?_) (fun q15 => ?_)
   ·
    try simp only [Z1, Z2, Z3, Z4, Z5, Z6, Z7, Z8, Z9, Z0] at q15
    refine WC.seq (WC.region ?_)
    refine WL.q (oq_move rfl) rfl rfl rfl ?_
    refine WL.q (oq_move rfl) rfl rfl rfl ?_
    refine WL.append ho Tryd.underlying55 (.inr Tryd.underlying9) ty5 rfl (by decide) rfl rfl (SrcS.str _) (by unfold maxLen; omega) (by omega) rfl rfl fun v16 A16 ho16 hne16 => ?_
    refine WL.q (oq_bytesStr ho16.rd (.head _) Tryd.underlying9 Tryd.underlying55 Tryd.underlying5 rfl) rfl rfl rfl ?_
    refine WL.q (oq_assign rfl) rfl rfl rfl ?_
    refine WL.nil (WE.then_normal (WC.sub (fr' := [(6, _)]) ?_ ⟨rfl, trivial⟩))
    refine WC.ret (WE.then_ret (WE.block_ret (WE.then_ret (WE.block_ret ?_))))
    refine WE.forget ho16.fresh ?_
    refine WE.add0 ?_
    refine WE.endA0 (.inl rfl) (res1 Tryd.results17 rfl) ?_ fresh0
    rfl
   ·
    try simp only [Z1, Z2, Z3, Z4, Z5, Z6, Z7, Z8, Z9, Z0] at q15
    refine WC.skip (WE.then_normal (WC.sub (fr' := [(0, _), (1, _), (2, _), (7, _), (10, _)]) ?_ ⟨rfl, rfl, rfl, rfl, rfl, trivial⟩))
    refine WC.seq ?_
    have := findI_no h37; omega
theorem splitHP {sc au pa qq h : List UInt8} (hu : UOk sc au pa qq h) (hal : (UT sc au pa qq).length ≤ 100000) : Fn0 Tryd.prog 47 [S au] (.tuple #[S h, S (prt au)]) := by
 have hlen := hal
 simp only [UT, List.length_append, List.length_cons] at hlen
 have hul := hu.len
 have hcol := col2 hu
 have hhl := h_le hu
 refine Fn0.enter (n := 34) Tryd.func47 rfl rfl fun w0 => ?_
 refine WC.sub (fr' := [(0, _)]) ?_ ⟨rfl, trivial⟩
 refine WC.seq (WC.region ?_)
 refine WL.q (oq_assign rfl) rfl rfl rfl ?_
 refine WL.q (oq_assign rfl) rfl rfl rfl ?_
 refine WL.nil (WE.then_normal (WC.sub (fr' := [(0, _), (3, _)]) ?_ ⟨rfl, rfl, trivial⟩))
 refine WC.seq (WC.region ?_)
 refine WL.q (oq_move rfl) rfl rfl rfl ?_
 refine WL.q (oq_assign rfl) rfl rfl rfl ?_
 refine WL.nil (WE.then_normal (WC.sub (fr' := [(2, _), (3, _)]) ?_ ⟨rfl, rfl, trivial⟩))
 refine WC.seq (WC.region ?_)
 refine WL.q (oq_move rfl) rfl rfl rfl ?_
 refine WL.qc (oq_call (slbyte au _ 58 rfl (by omega)) call31 rfl) rfl rfl rfl ?_
 refine WL.q (oq_assign rfl) rfl rfl rfl ?_
 refine WL.nil (WE.then_normal (WC.sub (fr' := [(2, _), (3, _), (4, _)]) ?_ ⟨rfl, rfl, rfl, trivial⟩))
 refine WC.cut (ι := Unit) (fun _ => [(2, S h), (3, S (prt au))]) (fun _ => []) (fun _ => True) ?_ ?_
 ·
  refine WC.seq (WC.region ?_)
  refine WL.q (oq_move rfl) rfl rfl rfl ?_
  refine WL.q (oq_neq rfl rfl) rfl rfl rfl ?_
  refine WL.q (oq_move rfl) rfl rfl rfl ?_
  refine WL.split 10 rfl (fun s3_2 => ?_) (fun s3_2 => ?_)
  ·
   try simp only [Z1, Z2, Z3, Z4, Z5, Z6, Z7, Z8, Z9, Z0] at s3_2
   refine WL.q (oq_move rfl) rfl rfl rfl ?_
   refine WL.q (oq_move rfl) rfl rfl rfl ?_
   refine WL.q (oq_slice_s1 Tryd.underlying9 rfl rfl (by first | omega | (have := hcol.resolve_left (fun e => s3_2 e.1); omega))) rfl rfl rfl ?_
   refine WL.qc (oq_call (validPort _ (hcol.resolve_left (fun e => s3_2 e.1)).2.2.1 (by simp; omega)) call66 rfl) rfl rfl rfl ?_
   refine WL.q (oq_pick_t rfl rfl) rfl rfl rfl ?_
   refine WL.nil (WE.then_normal (WC.sub (fr' := [(2, _), (3, _), (4, _), (15, _)]) ?_ ⟨rfl, rfl, rfl, rfl, trivial⟩))
   refine WC.cond rfl (fun q3 => ?_) (fun q3 => ?_)
   ·
    try simp only [Z1, Z2, Z3, Z4, Z5, Z6, Z7, Z8, Z9, Z0] at q3
    refine WC.quiet (by kernel_rfl) (by kernel_rfl) ?_
    refine WQ.q (oq_move rfl) rfl rfl rfl ?_
    refine WQ.q (oq_move rfl) rfl rfl rfl ?_
    refine WQ.q (oq_slice_s0 Tryd.underlying9 rfl rfl (by first | omega | (have := hcol.resolve_left (fun e => s3_2 e.1); omega))) rfl rfl rfl ?_
    refine WQ.q (oq_move rfl) rfl rfl rfl ?_
    refine WQ.q (oq_move rfl) rfl rfl rfl ?_
    refine WQ.q (oq_add rfl rfl (by rw [i64_lo, i64_hi]; (first | omega | (simp only [List.length_cons, List.length_nil, List.length_append, List.length_drop, List.length_take]; omega)))) rfl rfl rfl ?_
    refine WQ.q (oq_slice_s1 Tryd.underlying9 rfl rfl (by first | omega | (have := hcol.resolve_left (fun e => s3_2 e.1); omega))) rfl rfl rfl ?_
    refine WQ.q (oq_assign rfl) rfl rfl rfl ?_
    refine WQ.q (oq_assign rfl) rfl rfl rfl ?_
    refine WQ.nil ?_
    refine WE.meet () ?_ ⟨(gtv rfl (by first | exact congrArg S (hcol.resolve_left (fun e => s3_2 e.1)).2.2.2 | exact congrArg S (hcol.resolve_right (fun e => by omega)).2 | contradiction | (exfalso; simp at q3))), (gtv rfl (by first | exact congrArg S (if_neg s3_2).symm | exact congrArg S (if_pos (by omega)).symm | contradiction | (exfalso; simp at q3))), trivial⟩ (List.Perm.refl _)
    try dsimp only
    all_goals trivial
   ·
    try simp only [Z1, Z2, Z3, Z4, Z5, Z6, Z7, Z8, Z9, Z0] at q3
    refine WC.skip ?_
    refine WE.meet () ?_ ⟨(gtv rfl (by first | exact congrArg S (hcol.resolve_left (fun e => s3_2 e.1)).2.2.2 | exact congrArg S (hcol.resolve_right (fun e => by omega)).2 | contradiction | (exfalso; simp at q3))), (gtv rfl (by first | exact congrArg S (if_neg s3_2).symm | exact congrArg S (if_pos (by omega)).symm | contradiction | (exfalso; simp at q3))), trivial⟩ (List.Perm.refl _)
    try dsimp only
    all_goals trivial
  ·
   try simp only [Z1, Z2, Z3, Z4, Z5, Z6, Z7, Z8, Z9, Z0] at s3_2
   refine WL.skip rfl rfl rfl ?_
   refine WL.skip rfl rfl rfl ?_
   refine WL.skip rfl rfl rfl ?_
   refine WL.skip rfl rfl rfl ?_
   refine WL.q (oq_pick_f rfl rfl) rfl rfl rfl ?_
   refine WL.nil (WE.then_normal (WC.sub (fr' := [(2, _), (3, _), (4, _), (15, _)]) ?_ ⟨rfl, rfl, rfl, rfl, trivial⟩))
   refine WC.cond_f rfl ?_
   refine WC.skip ?_
   refine WE.meet () ?_ ⟨(gtv rfl (by first | exact congrArg S (hcol.resolve_left (fun e => s3_2 e.1)).2.2.2 | exact congrArg S (hcol.resolve_right (fun e => by omega)).2 | contradiction | (exfalso; simp at q3))), (gtv rfl (by first | exact congrArg S (if_neg s3_2).symm | exact congrArg S (if_pos (by omega)).symm | contradiction | (exfalso; simp at q3))), trivial⟩ (List.Perm.refl _)
   try dsimp only
   all_goals trivial
 ·rintro _ hp
  try dsimp only at hp
  show WC _ _ _ _ _ _ ([(2, S h), (3, S (prt au))]) ([])
  refine WC.seq (WC.seq (WC.region ?_))
  refine WL.q (oq_move rfl) rfl rfl rfl ?_
  refine WL.qc (oq_call (hasPreN h [91] (by omega) (by decide) (pre1 (h91 hu))) call15 rfl) rfl rfl rfl ?_
  refine WL.q (oq_move rfl) rfl rfl rfl ?_
  refine WL.skip rfl rfl rfl ?_
  refine WL.skip rfl rfl rfl ?_
  refine WL.q (oq_pick_f rfl rfl) rfl rfl rfl ?_
  refine WL.nil (WE.then_normal (WC.sub (fr' := [(2, _), (3, _), (28, _)]) ?_ ⟨rfl, rfl, rfl, trivial⟩))
  refine WC.cond_f rfl ?_
  refine WC.skip (WE.then_normal (WC.sub (fr' := [(2, _), (3, _)]) ?_ ⟨rfl, rfl, trivial⟩))
  refine WC.ret ?_
  refine WE.end0 (.inl rfl) (res2 Tryd.results47 rfl rfl) ?_
  rfl
theorem hostname (p : Nat) (rq rp : List UInt8) {sc au pa qq h : List UInt8} (hu : UOk sc au pa qq h) (hal : (UT sc au pa qq).length ≤ 100000) : FnR Tryd.prog 30 [Pt p 0] (UC p sc au pa rq rp) (S h) := by
 refine FnR.enter (n := 14) Tryd.func30 rfl rfl fun w0 => ?_
 refine WC.sub (fr' := [(0, _)]) ?_ ⟨rfl, trivial⟩
 refine WC.seq (WC.region ?_)
 refine WL.q (oq_assign rfl) rfl rfl rfl ?_
 refine WL.nil (WE.then_normal (WC.sub (fr' := [(0, _)]) ?_ ⟨rfl, trivial⟩))
 refine WC.seq (WC.region ?_)
 refine WL.q (oq_move rfl) rfl rfl rfl ?_
 refine WL.q (oq_nilCheck rfl) rfl rfl rfl ?_
 refine WL.q (oq_fieldAddr fld44_3 rfl) rfl rfl rfl ?_
 refine WL.q (oq_load flat9 rfl (.head _) (List.mem_singleton.2 rfl) rfl) rfl rfl rfl ?_
 refine WL.qc (oq_call (splitHP hu hal) call47 rfl) rfl rfl rfl ?_
 refine WL.q (oq_move rfl) rfl rfl rfl ?_
 refine WL.q (oq_extract rfl rfl) rfl rfl rfl ?_
 refine WL.q (oq_extract rfl rfl) rfl rfl rfl ?_
 refine WL.q (oq_assign rfl) rfl rfl rfl ?_
 refine WL.q (oq_assign rfl) rfl rfl rfl ?_
 refine WL.nil (WE.then_normal (WC.sub (fr' := [(3, _)]) ?_ ⟨rfl, trivial⟩))
 refine WC.seq (WC.region ?_)
 refine WL.q (oq_move rfl) rfl rfl rfl ?_
 refine WL.q (oq_assign rfl) rfl rfl rfl ?_
 refine WL.nil (WE.then_normal (WC.sub (fr' := [(2, _)]) ?_ ⟨rfl, trivial⟩))
 refine WC.ret ?_
 refine WE.endR (.inl rfl) (res1 Tryd.results30 rfl) ?_
 rfl
theorem hostNoZone (p : Nat) (rq rp : List UInt8) {sc au pa qq h : List UInt8} (hu : UOk sc au pa qq h) (hal : (UT sc au pa qq).length ≤ 100000) : FnR Tryd.prog 19 [Pt p 0] (UC p sc au pa rq rp) (S h) := by
 have hlen := hal
 simp only [UT, List.length_append, List.length_cons] at hlen
 have hul := hu.len
 have hhl := h_le hu
 refine FnR.enter (n := 15) Tryd.func19 rfl rfl fun w0 => ?_
 refine WC.sub (fr' := [(0, _)]) ?_ ⟨rfl, trivial⟩
 refine WC.seq (WC.region ?_)
 refine WL.q (oq_assign rfl) rfl rfl rfl ?_
 refine WL.nil (WE.then_normal (WC.sub (fr' := [(0, _)]) ?_ ⟨rfl, trivial⟩))
 refine WC.seq (WC.region ?_)
 refine WL.q (oq_move rfl) rfl rfl rfl ?_
 refine WL.qc (oq_callRm (hostname p rq rp hu hal) (.head _) call30 rfl) rfl rfl rfl ?_
 refine WL.q (oq_assign rfl) rfl rfl rfl ?_
 refine WL.nil (WE.then_normal (WC.sub (fr' := [(3, _)]) ?_ ⟨rfl, trivial⟩))
 refine WC.seq (WC.seq (WC.region ?_))
 refine WL.q (oq_move rfl) rfl rfl rfl ?_
 refine WL.qc (oq_call (slbNo h _ 37 rfl (by omega) (h37 hu)) call31 rfl) rfl rfl rfl ?_
 refine WL.q (oq_assign rfl) rfl rfl rfl ?_
 refine WL.nil (WE.then_normal (WC.sub (fr' := [(3, _), (4, _)]) ?_ ⟨rfl, rfl, trivial⟩))
 refine WC.seq (WC.region ?_)
 refine WL.q (oq_move rfl) rfl rfl rfl ?_
 refine WL.q (oq_gtr rfl rfl) rfl rfl rfl ?_
 refine WL.nil (WE.then_normal (WC.sub (fr' := [(3, _), (4, _), (10, _)]) ?_ ⟨rfl, rfl, rfl, trivial⟩))
 refine WC.cond rfl (fun q3 => ?_) (fun q3 => ?_)
 ·
  try simp only [Z1, Z2, Z3, Z4, Z5, Z6, Z7, Z8, Z9, Z0] at q3
  refine WC.seq ?_
  first | contradiction | omega | (exfalso; simp_all; done)
 ·
  try simp only [Z1, Z2, Z3, Z4, Z5, Z6, Z7, Z8, Z9, Z0] at q3
  refine WC.skip (WE.then_normal (WC.sub (fr' := [(3, _)]) ?_ ⟨rfl, trivial⟩))
  refine WC.seq (WC.region ?_)
  refine WL.q (oq_move rfl) rfl rfl rfl ?_
  refine WL.q (oq_assign rfl) rfl rfl rfl ?_
  refine WL.nil (WE.then_normal (WC.sub (fr' := [(2, _)]) ?_ ⟨rfl, trivial⟩))
  refine WC.ret ?_
  refine WE.endR (.inl rfl) (res1 Tryd.results19 rfl) ?_
  rfl
end M6
end Go.Proofs.YtefaegocllppkaaDoor
/- Four numbers with dots between: the walks. -/
namespace Go.Proofs.YtefaegocllppkaaDoor
open Go Go.RowKit V L0 L1 L2 M0 M1 M2 M3 M4 M5 M6 M7 MQ
set_option linter.unusedSimpArgs false
set_option linter.unusedVariables false
set_option maxRecDepth 10000
namespace M8
theorem ty5 : Ty Tryd.prog 5 (.int .u8 0) 1 1 := ty_of (by kernel_rfl)
theorem ty61 : Ty Tryd.prog 61 (.agg #[(.bool false), (S [])]) 2 24 := ty_of (by kernel_rfl)
theorem ty80 : Ty Tryd.prog 80 (.agg #[(S []), (S []), (S [])]) 3 48 := ty_of (by kernel_rfl)
theorem conc80 : Conc Tryd.prog 80 := ⟨_, Tryd.underlying80, by simp⟩
theorem agg61 : Agg Tryd.prog 61 := agg_of Tryd.underlying61
theorem str80 : Str Tryd.prog 80 #[(0, 1), (1, 1), (2, 1)] := ⟨_, Tryd.underlying80, fun w => by kernel_rfl⟩
theorem fl9 : Flat Tryd.prog 9 := ⟨_, Tryd.underlying9, by simp⟩
theorem fl4 : Flat Tryd.prog 4 := ⟨_, Tryd.underlying4, by simp⟩
theorem agg61' : Agg Tryd.prog 61 := agg_of Tryd.underlying61
theorem ty61' : Ty Tryd.prog 61 (.agg #[.bool false, S []]) 2 24 := ty_of (by kernel_rfl)
theorem digit2 {s : List UInt8} {i pos dl : Nat} {val : Int} {ps : List (List UInt8)} {cur : List UInt8} {x : Int} (h : V4 s i pos dl val ps cur) (hi : i < s.length) (hx : x = byteAt s (i : Int)) (h48 : 48 ≤ x ∧ x ≤ 57) (hz : ¬ (dl = 1 ∧ val = 0)) (h1 : val * 10 + x - 48 ≤ 255) : V4 s (i + 1) pos (dl + 1) (val * 10 + x - 48) ps (cur ++ [s.getD i 0]) := by
 have := h.digit hi hx h48 hz h1
 rwa [show s.getD i 0 = s[i] by rw [List.getD_eq_getElem?_getD, List.getElem?_eq_getElem hi]; rfl]
theorem eqNil (d : Nat) (w : World) : (Op.equalIn (d + 1) 9 (S []) (S [])).run Tryd.prog w = .ok true w := by
 have e : true = decide (([] : List UInt8) = []) := by decide
 rw [e, ← eq_str]
 exact run_equalIn_string w d 9 _ _ Tryd.underlying9
theorem eqDet (d : Nat) (w : World) (f : Bool) : (Op.equalIn (d + 2) 61 (.agg #[.bool f, S []]) (.agg #[.bool false, S []])).run Tryd.prog w = .ok ((f == false) && true) w := by
 have hS : Tryd.prog.underlying 61 = some (.struct (Tryd.prog.fieldsOf 61)) := by kernel_rfl
 have hp : Tryd.prog.stoodInHeld 61 = false := by kernel_rfl
 rw [show d + 2 = d + 1 + 1 from rfl, run_equalIn_struct w (d + 1) _ _ _ hS hp]
 unfold Program.fieldsOf
 rw [Tryd.underlying61]
 refine eqF_cons (by decide) (part_flat fl4 rfl) (part_flat fl4 rfl) (run_equalIn_bool w (d + 1) 4 f false Tryd.underlying4) ?_
 exact eqF_cons (r := true) (s := true) (by decide) (part_flat fl9 rfl) (part_flat fl9 rfl) (eqNil d w) eqF_nil
theorem eqHan (d : Nat) (w : World) (e f : Bool) : (Op.equalIn (d + 3) 63 (.agg #[.bool e, .bool f, S []]) (.agg #[.bool false, .bool false, S []])).run Tryd.prog w = .ok ((e == false) && (((f == false) && true) && true)) w := by
 have hS : Tryd.prog.underlying 63 = some (.struct (Tryd.prog.fieldsOf 63)) := by kernel_rfl
 have hp : Tryd.prog.stoodInHeld 63 = false := by kernel_rfl
 rw [show d + 3 = d + 2 + 1 from rfl, run_equalIn_struct w (d + 2) _ _ _ hS hp]
 unfold Program.fieldsOf
 rw [Tryd.underlying63]
 refine eqF_cons (by decide) (part_flat fl4 rfl) (part_flat fl4 rfl) (run_equalIn_bool w (d + 2) 4 e false Tryd.underlying4) ?_
 exact eqF_cons (by decide) (part_agg agg61' ty61' rfl) (part_agg agg61' ty61' rfl) (eqDet d w f) eqF_nil
section
variable {n : Nat} {w0 : World} {ds : List Deferred} {fr : Fr} {H : List Hp} {dst : Option Tmp} {ty t' : TypeId} {pos : String} {aft : Array Edge} {g : Option (Nat × Bool)} {x y : Operand}
theorem oq_eqHan {e f : Bool} (hx : ev fr x = some (.agg #[.bool e, .bool f, S []])) (hy : ev fr y = some (.agg #[.bool false, .bool false, S []])) : OV Tryd.prog n w0 ⟨dst, .binOp .eql 63 x y t', ty, pos, aft, g⟩ (.bool ((e == false) && (((f == false) && true) && true))) ds fr H :=
 oq_of_run fun c w hf _ => by
  have hg : Tryd.prog.eqGuardType Tryd.prog.depth 63 = false := by kernel_rfl
  simp only [execOp, hf.eval hx, hf.eval hy, Sem.run_bind, run_eqGuard_agg w .eql 63 x y _ _ hg, Result.andThen_ok, run_eql_struct, eqHan 9997 w e f, Sem.run_pure]
end
set_option maxHeartbeats 2000000 in
theorem v4Fields (base fb : Nat) (s : List UInt8) (hs : s.length ≤ 100000) (L0 : List UInt8) (hL0 : L0.length = 4) : FnW Tryd.prog 60 [S s, I 0, I (s.length : Int), Sl fb 0 4 4] base [Bf fb 103 L0] (fun v Hs => ((four s = true ∧ v = .nilIface) ∨ (four s = false ∧ ∃ k u, v = .iface k u)) ∧ ∃ L : List UInt8, L.length = 4 ∧ Hs = [Bf fb 103 L]) := by
 refine FnW.enter (n := 111) Tryd.func60 rfl rfl fun w0 R0 hbase => ?_
 subst hbase
 show WC _ _ _ _ _ _ _ ([Bf fb 103 L0, R0])
 refine WC.sub (fr' := [(0, _), (1, _), (2, _), (3, _)]) ?_ ⟨rfl, rfl, rfl, rfl, trivial⟩
 refine WC.seq (WC.region ?_)
 refine WL.q (oq_assign rfl) rfl rfl rfl ?_
 refine WL.nil (WE.then_normal (WC.sub (fr' := [(0, _), (1, _), (2, _), (3, _)]) ?_ ⟨rfl, rfl, rfl, rfl, trivial⟩))
 refine WC.seq (WC.region ?_)
 refine WL.q (oq_assign rfl) rfl rfl rfl ?_
 refine WL.q (oq_assign rfl) rfl rfl rfl ?_
 refine WL.nil (WE.then_normal (WC.sub (fr' := [(0, _), (1, _), (2, _), (3, _), (9, _), (10, _)]) ?_ ⟨rfl, rfl, rfl, rfl, rfl, rfl, trivial⟩))
 refine WC.seq (WC.region ?_)
 refine WL.q (oq_assign rfl) rfl rfl rfl ?_
 refine WL.nil (WE.then_normal (WC.sub (fr' := [(0, _), (1, _), (2, _), (3, _), (9, _), (10, _), (11, _)]) ?_ ⟨rfl, rfl, rfl, rfl, rfl, rfl, rfl, trivial⟩))
 refine WC.seq (WC.region ?_)
 refine WL.q (oq_move rfl) rfl rfl rfl ?_
 refine WL.q (oq_move rfl) rfl rfl rfl ?_
 refine WL.q (oq_move rfl) rfl rfl rfl ?_
 refine WL.q ((oq_slice_s2 Tryd.underlying9 rfl rfl rfl (by omega)).to (v' := S s) (congrArg S (cut_all s))) rfl rfl rfl ?_
 refine WL.q (oq_assign rfl) rfl rfl rfl ?_
 refine WL.nil (WE.then_normal (WC.sub (fr' := [(0, _), (3, _), (9, _), (10, _), (11, _), (12, _)]) ?_ ⟨rfl, rfl, rfl, rfl, rfl, rfl, trivial⟩))
 refine WC.seq (WC.seq (WC.region ?_))
 refine WL.q (oq_assign rfl) rfl rfl rfl ?_
 refine WL.nil (WE.then_normal (WC.sub (fr' := [(0, _), (3, _), (9, _), (10, _), (11, _), (12, _), (13, _)]) ?_ ⟨rfl, rfl, rfl, rfl, rfl, rfl, rfl, trivial⟩))
 refine WC.block ?_
 refine WC.loop (ι := Nat × Nat × Nat × Int × (List (List UInt8)) × (List UInt8) × (List UInt8)) (fun i_ => (fun (i : Nat) (pos : Nat) (dl : Nat) (val : Int) (ps : List (List UInt8)) (cur : List UInt8) (L : List UInt8) => [(0, S s), (3, Sl fb 0 4 4), (9, I val), (10, I (pos : Int)), (11, I (dl : Int)), (12, S s), (13, I (i : Int))]) i_.1 i_.2.1 i_.2.2.1 i_.2.2.2.1 i_.2.2.2.2.1 i_.2.2.2.2.2.1 i_.2.2.2.2.2.2) (fun i_ => (fun (i : Nat) (pos : Nat) (dl : Nat) (val : Int) (ps : List (List UInt8)) (cur : List UInt8) (L : List UInt8) => [Bf fb 103 L, R0]) i_.1 i_.2.1 i_.2.2.1 i_.2.2.2.1 i_.2.2.2.2.1 i_.2.2.2.2.2.1 i_.2.2.2.2.2.2) (fun i_ => (fun (i : Nat) (pos : Nat) (dl : Nat) (val : Int) (ps : List (List UInt8)) (cur : List UInt8) (L : List UInt8) => V4 s i pos dl val ps cur ∧ L.length = 4) i_.1 i_.2.1 i_.2.2.1 i_.2.2.2.1 i_.2.2.2.2.1 i_.2.2.2.2.2.1 i_.2.2.2.2.2.2) (fun i_ => (fun (i : Nat) (pos : Nat) (dl : Nat) (val : Int) (ps : List (List UInt8)) (cur : List UInt8) (L : List UInt8) => s.length - i) i_.1 i_.2.1 i_.2.2.1 i_.2.2.2.1 i_.2.2.2.2.1 i_.2.2.2.2.2.1 i_.2.2.2.2.2.2) ((0, 0, 0, 0, [], [], L0)) ?_ ⟨rfl, rfl, rfl, rfl, rfl, rfl, rfl, trivial⟩ (List.Perm.refl _) ?_
 ·try dsimp only
  exact ⟨V4.start s, hL0⟩
 ·rintro ⟨i, pos, dl, val, ps, cur, L⟩ hp
  try dsimp only at hp
  obtain ⟨hv, hL⟩ := hp
  show WC _ _ _ _ _ _ ([(0, S s), (3, Sl fb 0 4 4), (9, I val), (10, I (pos : Int)), (11, I (dl : Int)), (12, S s), (13, I (i : Int))]) ([Bf fb 103 L, R0])
  have h1 := hv.hi
  have h2 := hv.pos3
  have h3 := hv.big
  have h4 := hv.posv
  refine WC.seq (WC.seq (WC.region ?_))
  refine WL.q (oq_move rfl) rfl rfl rfl ?_
  refine WL.q (oq_move rfl) rfl rfl rfl ?_
  refine WL.q (oq_len_s Tryd.underlying9 rfl) rfl rfl rfl ?_
  refine WL.q (oq_lss rfl rfl) rfl rfl rfl ?_
  refine WL.nil (WE.then_normal (WC.sub (fr' := [(0, _), (3, _), (9, _), (10, _), (11, _), (12, _), (13, _), (21, _)]) ?_ ⟨rfl, rfl, rfl, rfl, rfl, rfl, rfl, rfl, trivial⟩))
  refine WC.cond rfl (fun q5 => ?_) (fun q5 => ?_)
  ·
   try simp only [Z1, Z2, Z3, Z4, Z5, Z6, Z7, Z8, Z9, Z0] at q5
   refine WC.skip (WE.then_normal (WC.sub (fr' := [(0, _), (3, _), (9, _), (10, _), (11, _), (12, _), (13, _)]) ?_ ⟨rfl, rfl, rfl, rfl, rfl, rfl, rfl, trivial⟩))
   refine WC.seq (WC.block (WC.seq (WC.region ?_)))
   refine WL.q (oq_move rfl) rfl rfl rfl ?_
   refine WL.q (oq_move rfl) rfl rfl rfl ?_
   refine WL.index_s Tryd.underlying9 rfl rfl (by (first | omega | (simp only [List.length_cons, List.length_nil, List.length_append, List.length_drop, List.length_take]; omega))) rfl rfl fun c7_2 hc7_2 hc7_2l hc7_2u => ?_
   refine WL.q (oq_geq rfl rfl) rfl rfl rfl ?_
   refine WL.q (oq_move rfl) rfl rfl rfl ?_
   refine WL.split 28 rfl (fun s7_4 => ?_) (fun s7_4 => ?_)
   ·
    try simp only [Z1, Z2, Z3, Z4, Z5, Z6, Z7, Z8, Z9, Z0] at s7_4
    refine WL.q (oq_move rfl) rfl rfl rfl ?_
    refine WL.q (oq_move rfl) rfl rfl rfl ?_
    refine WL.index_s Tryd.underlying9 rfl rfl (by (first | omega | (simp only [List.length_cons, List.length_nil, List.length_append, List.length_drop, List.length_take]; omega))) rfl rfl fun c7_7 hc7_7 hc7_7l hc7_7u => ?_
    refine WL.q (oq_leq rfl rfl) rfl rfl rfl ?_
    refine WL.q (oq_pick_t rfl rfl) rfl rfl rfl ?_
    refine WL.nil (WE.then_normal (WC.sub (fr' := [(0, _), (3, _), (9, _), (10, _), (11, _), (12, _), (13, _), (33, _)]) ?_ ⟨rfl, rfl, rfl, rfl, rfl, rfl, rfl, rfl, trivial⟩))
    refine WC.cond rfl (fun q7 => ?_) (fun q7 => ?_)
    ·
     try simp only [Z1, Z2, Z3, Z4, Z5, Z6, Z7, Z8, Z9, Z0] at q7
     refine WC.seq (WC.seq (WC.region ?_))
     refine WL.q (oq_move rfl) rfl rfl rfl ?_
     refine WL.q (oq_eql rfl rfl) rfl rfl rfl ?_
     refine WL.q (oq_move rfl) rfl rfl rfl ?_
     refine WL.split 36 rfl (fun s8_2 => ?_) (fun s8_2 => ?_)
     ·
      try simp only [Z1, Z2, Z3, Z4, Z5, Z6, Z7, Z8, Z9, Z0] at s8_2
      refine WL.q (oq_move rfl) rfl rfl rfl ?_
      refine WL.q (oq_eql rfl rfl) rfl rfl rfl ?_
      refine WL.q (oq_pick_t rfl rfl) rfl rfl rfl ?_
      refine WL.nil (WE.then_normal (WC.sub (fr' := [(0, _), (3, _), (9, _), (10, _), (11, _), (12, _), (13, _), (39, _)]) ?_ ⟨rfl, rfl, rfl, rfl, rfl, rfl, rfl, rfl, trivial⟩))
      refine WC.cond rfl (fun q8 => ?_) (fun q8 => ?_)
      ·
       try simp only [Z1, Z2, Z3, Z4, Z5, Z6, Z7, Z8, Z9, Z0] at q8
       refine WC.seq (WC.region ?_)
       refine WL.q (oq_move rfl) rfl rfl rfl ?_
       refine WL.q (oq_build #[_, _, _] str80 ty80 rfl rfl) rfl rfl rfl ?_
       refine WL.q (oq_makeI conc80 rfl) rfl rfl rfl ?_
       refine WL.q (oq_assign rfl) rfl rfl rfl ?_
       refine WL.nil (WE.then_normal (WC.sub (fr' := [(8, _)]) ?_ ⟨rfl, trivial⟩))
       refine WC.ret (WE.then_ret (WE.block_ret (WE.then_ret (WE.then_ret (WE.block_ret (WE.then_ret ?_))))))
       refine WE.endW1 (.inl rfl) (res1 Tryd.results60 rfl) ?_
       exact ⟨.inr ⟨hv.lzero (by omega) hc7_2 (by omega) (by omega) (by omega), _, _, rfl⟩, _, hL, rfl⟩
      ·
       try simp only [Z1, Z2, Z3, Z4, Z5, Z6, Z7, Z8, Z9, Z0] at q8
       refine WC.skip (WE.then_normal (WC.sub (fr' := [(0, _), (3, _), (9, _), (10, _), (11, _), (12, _), (13, _)]) ?_ ⟨rfl, rfl, rfl, rfl, rfl, rfl, rfl, trivial⟩))
       refine WC.seq (WC.region ?_)
       refine WL.q (oq_move rfl) rfl rfl rfl ?_
       refine WL.q (oq_mul rfl rfl (by rw [i64_lo, i64_hi]; (first | omega | (simp only [List.length_cons, List.length_nil, List.length_append, List.length_drop, List.length_take]; omega)))) rfl rfl rfl ?_
       refine WL.q (oq_move rfl) rfl rfl rfl ?_
       refine WL.q (oq_move rfl) rfl rfl rfl ?_
       refine WL.index_s Tryd.underlying9 rfl rfl (by (first | omega | (simp only [List.length_cons, List.length_nil, List.length_append, List.length_drop, List.length_take]; omega))) rfl rfl fun c10_4 hc10_4 hc10_4l hc10_4u => ?_
       refine WL.q (oq_conv Tryd.underlying5 Tryd.underlying3 rfl (by rw [i64_lo, i64_hi]; (first | omega | (simp only [List.length_cons, List.length_nil, List.length_append, List.length_drop, List.length_take]; omega)))) rfl rfl rfl ?_
       refine WL.q (oq_add rfl rfl (by rw [i64_lo, i64_hi]; (first | omega | (simp only [List.length_cons, List.length_nil, List.length_append, List.length_drop, List.length_take]; omega)))) rfl rfl rfl ?_
       refine WL.q (oq_sub rfl rfl (by rw [i64_lo, i64_hi]; (first | omega | (simp only [List.length_cons, List.length_nil, List.length_append, List.length_drop, List.length_take]; omega)))) rfl rfl rfl ?_
       refine WL.q (oq_assign rfl) rfl rfl rfl ?_
       refine WL.nil (WE.then_normal (WC.sub (fr' := [(0, _), (3, _), (9, _), (10, _), (11, _), (12, _), (13, _)]) ?_ ⟨rfl, rfl, rfl, rfl, rfl, rfl, rfl, trivial⟩))
       refine WC.seq (WC.region ?_)
       refine WL.q (oq_move rfl) rfl rfl rfl ?_
       refine WL.q (oq_add rfl rfl (by rw [i64_lo, i64_hi]; (first | omega | (simp only [List.length_cons, List.length_nil, List.length_append, List.length_drop, List.length_take]; omega)))) rfl rfl rfl ?_
       refine WL.q (oq_assign rfl) rfl rfl rfl ?_
       refine WL.nil (WE.then_normal (WC.sub (fr' := [(0, _), (3, _), (9, _), (10, _), (11, _), (12, _), (13, _)]) ?_ ⟨rfl, rfl, rfl, rfl, rfl, rfl, rfl, trivial⟩))
       refine WC.seq (WC.region ?_)
       refine WL.q (oq_move rfl) rfl rfl rfl ?_
       refine WL.q (oq_gtr rfl rfl) rfl rfl rfl ?_
       refine WL.nil (WE.then_normal (WC.sub (fr' := [(0, _), (3, _), (9, _), (10, _), (11, _), (12, _), (13, _), (54, _)]) ?_ ⟨rfl, rfl, rfl, rfl, rfl, rfl, rfl, rfl, trivial⟩))
       refine WC.cond rfl (fun q12 => ?_) (fun q12 => ?_)
       ·
        try simp only [Z1, Z2, Z3, Z4, Z5, Z6, Z7, Z8, Z9, Z0] at q12
        refine WC.seq (WC.region ?_)
        refine WL.q (oq_move rfl) rfl rfl rfl ?_
        refine WL.q (oq_build #[_, _, _] str80 ty80 rfl rfl) rfl rfl rfl ?_
        refine WL.q (oq_makeI conc80 rfl) rfl rfl rfl ?_
        refine WL.q (oq_assign rfl) rfl rfl rfl ?_
        refine WL.nil (WE.then_normal (WC.sub (fr' := [(8, _)]) ?_ ⟨rfl, trivial⟩))
        refine WC.ret (WE.block_ret (WE.then_ret (WE.then_ret (WE.block_ret (WE.then_ret ?_)))))
        refine WE.endW1 (.inl rfl) (res1 Tryd.results60 rfl) ?_
        exact ⟨.inr ⟨hv.over (by omega) hc10_4 (by omega) (by omega), _, _, rfl⟩, _, hL, rfl⟩
       ·
        try simp only [Z1, Z2, Z3, Z4, Z5, Z6, Z7, Z8, Z9, Z0] at q12
        refine WC.skip (WE.block_normal (WE.then_normal (WC.sub (fr' := [(0, _), (3, _), (9, _), (10, _), (11, _), (12, _), (13, _)]) ?_ ⟨rfl, rfl, rfl, rfl, rfl, rfl, rfl, trivial⟩)))
        refine WC.region ?_
        refine WL.q (oq_move rfl) rfl rfl rfl ?_
        refine WL.q (oq_add rfl rfl (by rw [i64_lo, i64_hi]; (first | omega | (simp only [List.length_cons, List.length_nil, List.length_append, List.length_drop, List.length_take]; omega)))) rfl rfl rfl ?_
        refine WL.q (oq_assign rfl) rfl rfl rfl ?_
        refine WL.nil ?_
        refine WE.again (i + 1, pos, dl + 1, val * 10 + c10_4 - 48, ps, cur ++ [s.getD i 0], L) ?_ ?_ ⟨rfl, rfl, rfl, rfl, rfl, rfl, rfl, trivial⟩ (List.Perm.refl _)
        ·try dsimp only
         exact ⟨digit2 hv (by omega) hc10_4 (by omega) (by omega) (by omega), hL⟩
        ·(try dsimp only); omega
     ·
      try simp only [Z1, Z2, Z3, Z4, Z5, Z6, Z7, Z8, Z9, Z0] at s8_2
      refine WL.skip rfl rfl rfl ?_
      refine WL.skip rfl rfl rfl ?_
      refine WL.q (oq_pick_f rfl rfl) rfl rfl rfl ?_
      refine WL.nil (WE.then_normal (WC.sub (fr' := [(0, _), (3, _), (9, _), (10, _), (11, _), (12, _), (13, _), (39, _)]) ?_ ⟨rfl, rfl, rfl, rfl, rfl, rfl, rfl, rfl, trivial⟩))
      refine WC.cond_f rfl ?_
      refine WC.skip (WE.then_normal (WC.sub (fr' := [(0, _), (3, _), (9, _), (10, _), (11, _), (12, _), (13, _)]) ?_ ⟨rfl, rfl, rfl, rfl, rfl, rfl, rfl, trivial⟩))
      refine WC.seq (WC.region ?_)
      refine WL.q (oq_move rfl) rfl rfl rfl ?_
      refine WL.q (oq_mul rfl rfl (by rw [i64_lo, i64_hi]; (first | omega | (simp only [List.length_cons, List.length_nil, List.length_append, List.length_drop, List.length_take]; omega)))) rfl rfl rfl ?_
      refine WL.q (oq_move rfl) rfl rfl rfl ?_
      refine WL.q (oq_move rfl) rfl rfl rfl ?_
      refine WL.index_s Tryd.underlying9 rfl rfl (by (first | omega | (simp only [List.length_cons, List.length_nil, List.length_append, List.length_drop, List.length_take]; omega))) rfl rfl fun c10_4 hc10_4 hc10_4l hc10_4u => ?_
      refine WL.q (oq_conv Tryd.underlying5 Tryd.underlying3 rfl (by rw [i64_lo, i64_hi]; (first | omega | (simp only [List.length_cons, List.length_nil, List.length_append, List.length_drop, List.length_take]; omega)))) rfl rfl rfl ?_
      refine WL.q (oq_add rfl rfl (by rw [i64_lo, i64_hi]; (first | omega | (simp only [List.length_cons, List.length_nil, List.length_append, List.length_drop, List.length_take]; omega)))) rfl rfl rfl ?_
      refine WL.q (oq_sub rfl rfl (by rw [i64_lo, i64_hi]; (first | omega | (simp only [List.length_cons, List.length_nil, List.length_append, List.length_drop, List.length_take]; omega)))) rfl rfl rfl ?_
      refine WL.q (oq_assign rfl) rfl rfl rfl ?_
      refine WL.nil (WE.then_normal (WC.sub (fr' := [(0, _), (3, _), (9, _), (10, _), (11, _), (12, _), (13, _)]) ?_ ⟨rfl, rfl, rfl, rfl, rfl, rfl, rfl, trivial⟩))
      refine WC.seq (WC.region ?_)
      refine WL.q (oq_move rfl) rfl rfl rfl ?_
      refine WL.q (oq_add rfl rfl (by rw [i64_lo, i64_hi]; (first | omega | (simp only [List.length_cons, List.length_nil, List.length_append, List.length_drop, List.length_take]; omega)))) rfl rfl rfl ?_
      refine WL.q (oq_assign rfl) rfl rfl rfl ?_
      refine WL.nil (WE.then_normal (WC.sub (fr' := [(0, _), (3, _), (9, _), (10, _), (11, _), (12, _), (13, _)]) ?_ ⟨rfl, rfl, rfl, rfl, rfl, rfl, rfl, trivial⟩))
      refine WC.seq (WC.region ?_)
      refine WL.q (oq_move rfl) rfl rfl rfl ?_
      refine WL.q (oq_gtr rfl rfl) rfl rfl rfl ?_
      refine WL.nil (WE.then_normal (WC.sub (fr' := [(0, _), (3, _), (9, _), (10, _), (11, _), (12, _), (13, _), (54, _)]) ?_ ⟨rfl, rfl, rfl, rfl, rfl, rfl, rfl, rfl, trivial⟩))
      refine WC.cond rfl (fun q12 => ?_) (fun q12 => ?_)
      ·
       try simp only [Z1, Z2, Z3, Z4, Z5, Z6, Z7, Z8, Z9, Z0] at q12
       refine WC.seq (WC.region ?_)
       refine WL.q (oq_move rfl) rfl rfl rfl ?_
       refine WL.q (oq_build #[_, _, _] str80 ty80 rfl rfl) rfl rfl rfl ?_
       refine WL.q (oq_makeI conc80 rfl) rfl rfl rfl ?_
       refine WL.q (oq_assign rfl) rfl rfl rfl ?_
       refine WL.nil (WE.then_normal (WC.sub (fr' := [(8, _)]) ?_ ⟨rfl, trivial⟩))
       refine WC.ret (WE.block_ret (WE.then_ret (WE.then_ret (WE.block_ret (WE.then_ret ?_)))))
       refine WE.endW1 (.inl rfl) (res1 Tryd.results60 rfl) ?_
       exact ⟨.inr ⟨hv.over (by omega) hc10_4 (by omega) (by omega), _, _, rfl⟩, _, hL, rfl⟩
      ·
       try simp only [Z1, Z2, Z3, Z4, Z5, Z6, Z7, Z8, Z9, Z0] at q12
       refine WC.skip (WE.block_normal (WE.then_normal (WC.sub (fr' := [(0, _), (3, _), (9, _), (10, _), (11, _), (12, _), (13, _)]) ?_ ⟨rfl, rfl, rfl, rfl, rfl, rfl, rfl, trivial⟩)))
       refine WC.region ?_
       refine WL.q (oq_move rfl) rfl rfl rfl ?_
       refine WL.q (oq_add rfl rfl (by rw [i64_lo, i64_hi]; (first | omega | (simp only [List.length_cons, List.length_nil, List.length_append, List.length_drop, List.length_take]; omega)))) rfl rfl rfl ?_
       refine WL.q (oq_assign rfl) rfl rfl rfl ?_
       refine WL.nil ?_
       refine WE.again (i + 1, pos, dl + 1, val * 10 + c10_4 - 48, ps, cur ++ [s.getD i 0], L) ?_ ?_ ⟨rfl, rfl, rfl, rfl, rfl, rfl, rfl, trivial⟩ (List.Perm.refl _)
       ·try dsimp only
        exact ⟨digit2 hv (by omega) hc10_4 (by omega) (by omega) (by omega), hL⟩
       ·(try dsimp only); omega
    ·
     try simp only [Z1, Z2, Z3, Z4, Z5, Z6, Z7, Z8, Z9, Z0] at q7
     refine WC.seq (WC.region ?_)
     refine WL.q (oq_move rfl) rfl rfl rfl ?_
     refine WL.q (oq_move rfl) rfl rfl rfl ?_
     refine WL.index_s Tryd.underlying9 rfl rfl (by (first | omega | (simp only [List.length_cons, List.length_nil, List.length_append, List.length_drop, List.length_take]; omega))) rfl rfl fun c14_2 hc14_2 hc14_2l hc14_2u => ?_
     refine WL.q (oq_eql rfl rfl) rfl rfl rfl ?_
     refine WL.nil (WE.then_normal (WC.sub (fr' := [(0, _), (3, _), (9, _), (10, _), (12, _), (13, _), (61, _)]) ?_ ⟨rfl, rfl, rfl, rfl, rfl, rfl, rfl, trivial⟩))
     refine WC.cond rfl (fun q14 => ?_) (fun q14 => ?_)
     ·
      try simp only [Z1, Z2, Z3, Z4, Z5, Z6, Z7, Z8, Z9, Z0] at q14
      refine WC.seq (WC.seq (WC.region ?_))
      refine WL.q (oq_move rfl) rfl rfl rfl ?_
      refine WL.q (oq_eql rfl rfl) rfl rfl rfl ?_
      refine WL.q (oq_move rfl) rfl rfl rfl ?_
      refine WL.split 64 rfl (fun s15_2 => ?_) (fun s15_2 => ?_)
      ·
       try simp only [Z1, Z2, Z3, Z4, Z5, Z6, Z7, Z8, Z9, Z0] at s15_2
       refine WL.skip rfl rfl rfl ?_
       refine WL.skip rfl rfl rfl ?_
       refine WL.skip rfl rfl rfl ?_
       refine WL.skip rfl rfl rfl ?_
       refine WL.skip rfl rfl rfl ?_
       refine WL.q (oq_pick_t rfl rfl) rfl rfl rfl ?_
       refine WL.q (oq_move rfl) rfl rfl rfl ?_
       refine WL.skip rfl rfl rfl ?_
       refine WL.skip rfl rfl rfl ?_
       refine WL.skip rfl rfl rfl ?_
       refine WL.skip rfl rfl rfl ?_
       refine WL.skip rfl rfl rfl ?_
       refine WL.q (oq_pick_t rfl rfl) rfl rfl rfl ?_
       refine WL.nil (WE.then_normal (WC.sub (fr' := [(0, _), (3, _), (9, _), (10, _), (12, _), (13, _), (77, _)]) ?_ ⟨rfl, rfl, rfl, rfl, rfl, rfl, rfl, trivial⟩))
       refine WC.cond_t rfl ?_
       refine WC.seq (WC.region ?_)
       refine WL.q (oq_move rfl) rfl rfl rfl ?_
       refine WL.q (oq_move rfl) rfl rfl rfl ?_
       refine WL.q (oq_move rfl) rfl rfl rfl ?_
       refine WL.q (oq_slice_s1 Tryd.underlying9 rfl rfl (by (first | omega | (simp only [List.length_cons, List.length_nil, List.length_append, List.length_drop, List.length_take]; omega)))) rfl rfl rfl ?_
       refine WL.q (oq_build #[_, _, _] str80 ty80 rfl rfl) rfl rfl rfl ?_
       refine WL.q (oq_makeI conc80 rfl) rfl rfl rfl ?_
       refine WL.q (oq_assign rfl) rfl rfl rfl ?_
       refine WL.nil (WE.then_normal (WC.sub (fr' := [(8, _)]) ?_ ⟨rfl, trivial⟩))
       refine WC.ret (WE.then_ret (WE.block_ret (WE.then_ret (WE.then_ret (WE.block_ret (WE.then_ret ?_))))))
       refine WE.endW1 (.inl rfl) (res1 Tryd.results60 rfl) ?_
       exact ⟨.inr ⟨hv.dot0 (by omega) hc14_2 (by omega) (.inl (by omega)), _, _, rfl⟩, _, hL, rfl⟩
      ·
       try simp only [Z1, Z2, Z3, Z4, Z5, Z6, Z7, Z8, Z9, Z0] at s15_2
       refine WL.q (oq_move rfl) rfl rfl rfl ?_
       refine WL.q (oq_move rfl) rfl rfl rfl ?_
       refine WL.q (oq_len_s Tryd.underlying9 rfl) rfl rfl rfl ?_
       refine WL.q (oq_sub rfl rfl (by rw [i64_lo, i64_hi]; (first | omega | (simp only [List.length_cons, List.length_nil, List.length_append, List.length_drop, List.length_take]; omega)))) rfl rfl rfl ?_
       refine WL.q (oq_eql rfl rfl) rfl rfl rfl ?_
       refine WL.q (oq_pick_f rfl rfl) rfl rfl rfl ?_
       refine WL.q (oq_move rfl) rfl rfl rfl ?_
       refine WL.split 71 rfl (fun s15_9 => ?_) (fun s15_9 => ?_)
       ·
        try simp only [Z1, Z2, Z3, Z4, Z5, Z6, Z7, Z8, Z9, Z0] at s15_9
        refine WL.skip rfl rfl rfl ?_
        refine WL.skip rfl rfl rfl ?_
        refine WL.skip rfl rfl rfl ?_
        refine WL.skip rfl rfl rfl ?_
        refine WL.skip rfl rfl rfl ?_
        refine WL.q (oq_pick_t rfl rfl) rfl rfl rfl ?_
        refine WL.nil (WE.then_normal (WC.sub (fr' := [(0, _), (3, _), (9, _), (10, _), (12, _), (13, _), (77, _)]) ?_ ⟨rfl, rfl, rfl, rfl, rfl, rfl, rfl, trivial⟩))
        refine WC.cond_t rfl ?_
        refine WC.seq (WC.region ?_)
        refine WL.q (oq_move rfl) rfl rfl rfl ?_
        refine WL.q (oq_move rfl) rfl rfl rfl ?_
        refine WL.q (oq_move rfl) rfl rfl rfl ?_
        refine WL.q (oq_slice_s1 Tryd.underlying9 rfl rfl (by (first | omega | (simp only [List.length_cons, List.length_nil, List.length_append, List.length_drop, List.length_take]; omega)))) rfl rfl rfl ?_
        refine WL.q (oq_build #[_, _, _] str80 ty80 rfl rfl) rfl rfl rfl ?_
        refine WL.q (oq_makeI conc80 rfl) rfl rfl rfl ?_
        refine WL.q (oq_assign rfl) rfl rfl rfl ?_
        refine WL.nil (WE.then_normal (WC.sub (fr' := [(8, _)]) ?_ ⟨rfl, trivial⟩))
        refine WC.ret (WE.then_ret (WE.block_ret (WE.then_ret (WE.then_ret (WE.block_ret (WE.then_ret ?_))))))
        refine WE.endW1 (.inl rfl) (res1 Tryd.results60 rfl) ?_
        exact ⟨.inr ⟨hv.dotE (by omega) hc14_2 (by omega) (by omega), _, _, rfl⟩, _, hL, rfl⟩
       ·
        try simp only [Z1, Z2, Z3, Z4, Z5, Z6, Z7, Z8, Z9, Z0] at s15_9
        refine WL.q (oq_move rfl) rfl rfl rfl ?_
        refine WL.q (oq_move rfl) rfl rfl rfl ?_
        refine WL.q (oq_sub rfl rfl (by rw [i64_lo, i64_hi]; (first | omega | (simp only [List.length_cons, List.length_nil, List.length_append, List.length_drop, List.length_take]; omega)))) rfl rfl rfl ?_
        refine WL.index_s Tryd.underlying9 rfl rfl (by (first | omega | (simp only [List.length_cons, List.length_nil, List.length_append, List.length_drop, List.length_take]; omega))) rfl rfl fun c15_13 hc15_13 hc15_13l hc15_13u => ?_
        refine WL.q (oq_eql rfl rfl) rfl rfl rfl ?_
        refine WL.q (oq_pick_f rfl rfl) rfl rfl rfl ?_
        refine WL.nil (WE.then_normal (WC.sub (fr' := [(0, _), (3, _), (9, _), (10, _), (12, _), (13, _), (77, _)]) ?_ ⟨rfl, rfl, rfl, rfl, rfl, rfl, rfl, trivial⟩))
        refine WC.cond rfl (fun q15 => ?_) (fun q15 => ?_)
        ·
         try simp only [Z1, Z2, Z3, Z4, Z5, Z6, Z7, Z8, Z9, Z0] at q15
         refine WC.seq (WC.region ?_)
         refine WL.q (oq_move rfl) rfl rfl rfl ?_
         refine WL.q (oq_move rfl) rfl rfl rfl ?_
         refine WL.q (oq_move rfl) rfl rfl rfl ?_
         refine WL.q (oq_slice_s1 Tryd.underlying9 rfl rfl (by (first | omega | (simp only [List.length_cons, List.length_nil, List.length_append, List.length_drop, List.length_take]; omega)))) rfl rfl rfl ?_
         refine WL.q (oq_build #[_, _, _] str80 ty80 rfl rfl) rfl rfl rfl ?_
         refine WL.q (oq_makeI conc80 rfl) rfl rfl rfl ?_
         refine WL.q (oq_assign rfl) rfl rfl rfl ?_
         refine WL.nil (WE.then_normal (WC.sub (fr' := [(8, _)]) ?_ ⟨rfl, trivial⟩))
         refine WC.ret (WE.then_ret (WE.block_ret (WE.then_ret (WE.then_ret (WE.block_ret (WE.then_ret ?_))))))
         refine WE.endW1 (.inl rfl) (res1 Tryd.results60 rfl) ?_
         exact ⟨.inr ⟨hv.dot0 (by omega) hc14_2 (by omega) (.inr (by rw [← hc15_13]; omega)), _, _, rfl⟩, _, hL, rfl⟩
        ·
         try simp only [Z1, Z2, Z3, Z4, Z5, Z6, Z7, Z8, Z9, Z0] at q15
         refine WC.skip (WE.then_normal (WC.sub (fr' := [(0, _), (3, _), (9, _), (10, _), (12, _), (13, _)]) ?_ ⟨rfl, rfl, rfl, rfl, rfl, rfl, trivial⟩))
         refine WC.seq (WC.seq (WC.region ?_))
         refine WL.q (oq_move rfl) rfl rfl rfl ?_
         refine WL.q (oq_eql rfl rfl) rfl rfl rfl ?_
         refine WL.nil (WE.then_normal (WC.sub (fr' := [(0, _), (3, _), (9, _), (10, _), (12, _), (13, _), (85, _)]) ?_ ⟨rfl, rfl, rfl, rfl, rfl, rfl, rfl, trivial⟩))
         refine WC.cond rfl (fun q17 => ?_) (fun q17 => ?_)
         ·
          try simp only [Z1, Z2, Z3, Z4, Z5, Z6, Z7, Z8, Z9, Z0] at q17
          refine WC.seq (WC.region ?_)
          refine WL.q (oq_move rfl) rfl rfl rfl ?_
          refine WL.q (oq_build #[_, _, _] str80 ty80 rfl rfl) rfl rfl rfl ?_
          refine WL.q (oq_makeI conc80 rfl) rfl rfl rfl ?_
          refine WL.q (oq_assign rfl) rfl rfl rfl ?_
          refine WL.nil (WE.then_normal (WC.sub (fr' := [(8, _)]) ?_ ⟨rfl, trivial⟩))
          refine WC.ret (WE.then_ret (WE.block_ret (WE.then_ret (WE.then_ret (WE.block_ret (WE.then_ret ?_))))))
          refine WE.endW1 (.inl rfl) (res1 Tryd.results60 rfl) ?_
          exact ⟨.inr ⟨hv.dot3 (by omega) hc14_2 (by omega) (by omega), _, _, rfl⟩, _, hL, rfl⟩
         ·
          try simp only [Z1, Z2, Z3, Z4, Z5, Z6, Z7, Z8, Z9, Z0] at q17
          refine WC.skip (WE.then_normal (WC.sub (fr' := [(0, _), (3, _), (9, _), (10, _), (12, _), (13, _)]) ?_ ⟨rfl, rfl, rfl, rfl, rfl, rfl, trivial⟩))
          refine WC.seq (WC.region ?_)
          refine WL.q (oq_move rfl) rfl rfl rfl ?_
          refine WL.q (oq_move rfl) rfl rfl rfl ?_
          refine WL.q (oq_move rfl) rfl rfl rfl ?_
          refine WL.q (oq_conv Tryd.underlying3 Tryd.underlying5 rfl (by rw [u8_lo, u8_hi]; (first | omega | (simp only [List.length_cons, List.length_nil, List.length_append, List.length_drop, List.length_take]; omega)))) rfl rfl rfl ?_
          refine WL.q (oq_ixSl (i := pos) Tryd.underlying55 ty5 rfl rfl (by first | omega | (simp only [List.length_set]; omega))) rfl rfl rfl ?_
          refine WL.storeB ty5 rfl rfl (by omega) (by first | omega | (simp only [List.length_set]; omega)) rfl ?_
          refine WL.nil (WE.then_normal (WC.sub (fr' := [(0, _), (3, _), (10, _), (12, _), (13, _)]) ?_ ⟨rfl, rfl, rfl, rfl, rfl, trivial⟩))
          refine WC.seq (WC.region ?_)
          refine WL.q (oq_move rfl) rfl rfl rfl ?_
          refine WL.q (oq_add rfl rfl (by rw [i64_lo, i64_hi]; (first | omega | (simp only [List.length_cons, List.length_nil, List.length_append, List.length_drop, List.length_take]; omega)))) rfl rfl rfl ?_
          refine WL.q (oq_assign rfl) rfl rfl rfl ?_
          refine WL.nil (WE.then_normal (WC.sub (fr' := [(0, _), (3, _), (10, _), (12, _), (13, _)]) ?_ ⟨rfl, rfl, rfl, rfl, rfl, trivial⟩))
          refine WC.seq (WC.region ?_)
          refine WL.q (oq_assign rfl) rfl rfl rfl ?_
          refine WL.nil (WE.then_normal (WC.sub (fr' := [(0, _), (3, _), (9, _), (10, _), (12, _), (13, _)]) ?_ ⟨rfl, rfl, rfl, rfl, rfl, rfl, trivial⟩))
          refine WC.region ?_
          refine WL.q (oq_assign rfl) rfl rfl rfl ?_
          refine WL.nil (WE.block_normal (WE.then_normal (WC.sub (fr' := [(0, _), (3, _), (9, _), (10, _), (11, _), (12, _), (13, _)]) ?_ ⟨rfl, rfl, rfl, rfl, rfl, rfl, rfl, trivial⟩)))
          refine WC.region ?_
          refine WL.q (oq_move rfl) rfl rfl rfl ?_
          refine WL.q (oq_add rfl rfl (by rw [i64_lo, i64_hi]; (first | omega | (simp only [List.length_cons, List.length_nil, List.length_append, List.length_drop, List.length_take]; omega)))) rfl rfl rfl ?_
          refine WL.q (oq_assign rfl) rfl rfl rfl ?_
          refine WL.nil ?_
          refine WE.again (i + 1, pos + 1, 0, 0, ps ++ [cur], [], _) ?_ ?_ ⟨rfl, rfl, rfl, rfl, rfl, rfl, rfl, trivial⟩ (List.Perm.refl _)
          ·try dsimp only
           exact ⟨hv.dot (by omega) hc14_2 (by omega) (by omega) (by omega) (by rw [← hc15_13]; omega) (by omega), by simp only [List.length_set]; exact hL⟩
          ·(try dsimp only); omega
     ·
      try simp only [Z1, Z2, Z3, Z4, Z5, Z6, Z7, Z8, Z9, Z0] at q14
      refine WC.seq (WC.region ?_)
      refine WL.q (oq_move rfl) rfl rfl rfl ?_
      refine WL.q (oq_move rfl) rfl rfl rfl ?_
      refine WL.q (oq_move rfl) rfl rfl rfl ?_
      refine WL.q (oq_slice_s1 Tryd.underlying9 rfl rfl (by (first | omega | (simp only [List.length_cons, List.length_nil, List.length_append, List.length_drop, List.length_take]; omega)))) rfl rfl rfl ?_
      refine WL.q (oq_build #[_, _, _] str80 ty80 rfl rfl) rfl rfl rfl ?_
      refine WL.q (oq_makeI conc80 rfl) rfl rfl rfl ?_
      refine WL.q (oq_assign rfl) rfl rfl rfl ?_
      refine WL.nil (WE.then_normal (WC.sub (fr' := [(8, _)]) ?_ ⟨rfl, trivial⟩))
      refine WC.ret (WE.block_ret (WE.then_ret (WE.then_ret (WE.block_ret (WE.then_ret ?_)))))
      refine WE.endW1 (.inl rfl) (res1 Tryd.results60 rfl) ?_
      exact ⟨.inr ⟨hv.other (by omega) hc14_2 (by omega) (by omega), _, _, rfl⟩, _, hL, rfl⟩
   ·
    try simp only [Z1, Z2, Z3, Z4, Z5, Z6, Z7, Z8, Z9, Z0] at s7_4
    refine WL.skip rfl rfl rfl ?_
    refine WL.skip rfl rfl rfl ?_
    refine WL.skip rfl rfl rfl ?_
    refine WL.skip rfl rfl rfl ?_
    refine WL.q (oq_pick_f rfl rfl) rfl rfl rfl ?_
    refine WL.nil (WE.then_normal (WC.sub (fr' := [(0, _), (3, _), (9, _), (10, _), (11, _), (12, _), (13, _), (33, _)]) ?_ ⟨rfl, rfl, rfl, rfl, rfl, rfl, rfl, rfl, trivial⟩))
    refine WC.cond_f rfl ?_
    refine WC.seq (WC.region ?_)
    refine WL.q (oq_move rfl) rfl rfl rfl ?_
    refine WL.q (oq_move rfl) rfl rfl rfl ?_
    refine WL.index_s Tryd.underlying9 rfl rfl (by (first | omega | (simp only [List.length_cons, List.length_nil, List.length_append, List.length_drop, List.length_take]; omega))) rfl rfl fun c14_2 hc14_2 hc14_2l hc14_2u => ?_
    refine WL.q (oq_eql rfl rfl) rfl rfl rfl ?_
    refine WL.nil (WE.then_normal (WC.sub (fr' := [(0, _), (3, _), (9, _), (10, _), (12, _), (13, _), (61, _)]) ?_ ⟨rfl, rfl, rfl, rfl, rfl, rfl, rfl, trivial⟩))
    refine WC.cond rfl (fun q14 => ?_) (fun q14 => ?_)
    ·
     try simp only [Z1, Z2, Z3, Z4, Z5, Z6, Z7, Z8, Z9, Z0] at q14
     refine WC.seq (WC.seq (WC.region ?_))
     refine WL.q (oq_move rfl) rfl rfl rfl ?_
     refine WL.q (oq_eql rfl rfl) rfl rfl rfl ?_
     refine WL.q (oq_move rfl) rfl rfl rfl ?_
     refine WL.split 64 rfl (fun s15_2 => ?_) (fun s15_2 => ?_)
     ·
      try simp only [Z1, Z2, Z3, Z4, Z5, Z6, Z7, Z8, Z9, Z0] at s15_2
      refine WL.skip rfl rfl rfl ?_
      refine WL.skip rfl rfl rfl ?_
      refine WL.skip rfl rfl rfl ?_
      refine WL.skip rfl rfl rfl ?_
      refine WL.skip rfl rfl rfl ?_
      refine WL.q (oq_pick_t rfl rfl) rfl rfl rfl ?_
      refine WL.q (oq_move rfl) rfl rfl rfl ?_
      refine WL.skip rfl rfl rfl ?_
      refine WL.skip rfl rfl rfl ?_
      refine WL.skip rfl rfl rfl ?_
      refine WL.skip rfl rfl rfl ?_
      refine WL.skip rfl rfl rfl ?_
      refine WL.q (oq_pick_t rfl rfl) rfl rfl rfl ?_
      refine WL.nil (WE.then_normal (WC.sub (fr' := [(0, _), (3, _), (9, _), (10, _), (12, _), (13, _), (77, _)]) ?_ ⟨rfl, rfl, rfl, rfl, rfl, rfl, rfl, trivial⟩))
      refine WC.cond_t rfl ?_
      refine WC.seq (WC.region ?_)
      refine WL.q (oq_move rfl) rfl rfl rfl ?_
      refine WL.q (oq_move rfl) rfl rfl rfl ?_
      refine WL.q (oq_move rfl) rfl rfl rfl ?_
      refine WL.q (oq_slice_s1 Tryd.underlying9 rfl rfl (by (first | omega | (simp only [List.length_cons, List.length_nil, List.length_append, List.length_drop, List.length_take]; omega)))) rfl rfl rfl ?_
      refine WL.q (oq_build #[_, _, _] str80 ty80 rfl rfl) rfl rfl rfl ?_
      refine WL.q (oq_makeI conc80 rfl) rfl rfl rfl ?_
      refine WL.q (oq_assign rfl) rfl rfl rfl ?_
      refine WL.nil (WE.then_normal (WC.sub (fr' := [(8, _)]) ?_ ⟨rfl, trivial⟩))
      refine WC.ret (WE.then_ret (WE.block_ret (WE.then_ret (WE.then_ret (WE.block_ret (WE.then_ret ?_))))))
      refine WE.endW1 (.inl rfl) (res1 Tryd.results60 rfl) ?_
      exact ⟨.inr ⟨hv.dot0 (by omega) hc14_2 (by omega) (.inl (by omega)), _, _, rfl⟩, _, hL, rfl⟩
     ·
      try simp only [Z1, Z2, Z3, Z4, Z5, Z6, Z7, Z8, Z9, Z0] at s15_2
      refine WL.q (oq_move rfl) rfl rfl rfl ?_
      refine WL.q (oq_move rfl) rfl rfl rfl ?_
      refine WL.q (oq_len_s Tryd.underlying9 rfl) rfl rfl rfl ?_
      refine WL.q (oq_sub rfl rfl (by rw [i64_lo, i64_hi]; (first | omega | (simp only [List.length_cons, List.length_nil, List.length_append, List.length_drop, List.length_take]; omega)))) rfl rfl rfl ?_
      refine WL.q (oq_eql rfl rfl) rfl rfl rfl ?_
      refine WL.q (oq_pick_f rfl rfl) rfl rfl rfl ?_
      refine WL.q (oq_move rfl) rfl rfl rfl ?_
      refine WL.split 71 rfl (fun s15_9 => ?_) (fun s15_9 => ?_)
      ·
       try simp only [Z1, Z2, Z3, Z4, Z5, Z6, Z7, Z8, Z9, Z0] at s15_9
       refine WL.skip rfl rfl rfl ?_
       refine WL.skip rfl rfl rfl ?_
       refine WL.skip rfl rfl rfl ?_
       refine WL.skip rfl rfl rfl ?_
       refine WL.skip rfl rfl rfl ?_
       refine WL.q (oq_pick_t rfl rfl) rfl rfl rfl ?_
       refine WL.nil (WE.then_normal (WC.sub (fr' := [(0, _), (3, _), (9, _), (10, _), (12, _), (13, _), (77, _)]) ?_ ⟨rfl, rfl, rfl, rfl, rfl, rfl, rfl, trivial⟩))
       refine WC.cond_t rfl ?_
       refine WC.seq (WC.region ?_)
       refine WL.q (oq_move rfl) rfl rfl rfl ?_
       refine WL.q (oq_move rfl) rfl rfl rfl ?_
       refine WL.q (oq_move rfl) rfl rfl rfl ?_
       refine WL.q (oq_slice_s1 Tryd.underlying9 rfl rfl (by (first | omega | (simp only [List.length_cons, List.length_nil, List.length_append, List.length_drop, List.length_take]; omega)))) rfl rfl rfl ?_
       refine WL.q (oq_build #[_, _, _] str80 ty80 rfl rfl) rfl rfl rfl ?_
       refine WL.q (oq_makeI conc80 rfl) rfl rfl rfl ?_
       refine WL.q (oq_assign rfl) rfl rfl rfl ?_
       refine WL.nil (WE.then_normal (WC.sub (fr' := [(8, _)]) ?_ ⟨rfl, trivial⟩))
       refine WC.ret (WE.then_ret (WE.block_ret (WE.then_ret (WE.then_ret (WE.block_ret (WE.then_ret ?_))))))
       refine WE.endW1 (.inl rfl) (res1 Tryd.results60 rfl) ?_
       exact ⟨.inr ⟨hv.dotE (by omega) hc14_2 (by omega) (by omega), _, _, rfl⟩, _, hL, rfl⟩
      ·
       try simp only [Z1, Z2, Z3, Z4, Z5, Z6, Z7, Z8, Z9, Z0] at s15_9
       refine WL.q (oq_move rfl) rfl rfl rfl ?_
       refine WL.q (oq_move rfl) rfl rfl rfl ?_
       refine WL.q (oq_sub rfl rfl (by rw [i64_lo, i64_hi]; (first | omega | (simp only [List.length_cons, List.length_nil, List.length_append, List.length_drop, List.length_take]; omega)))) rfl rfl rfl ?_
       refine WL.index_s Tryd.underlying9 rfl rfl (by (first | omega | (simp only [List.length_cons, List.length_nil, List.length_append, List.length_drop, List.length_take]; omega))) rfl rfl fun c15_13 hc15_13 hc15_13l hc15_13u => ?_
       refine WL.q (oq_eql rfl rfl) rfl rfl rfl ?_
       refine WL.q (oq_pick_f rfl rfl) rfl rfl rfl ?_
       refine WL.nil (WE.then_normal (WC.sub (fr' := [(0, _), (3, _), (9, _), (10, _), (12, _), (13, _), (77, _)]) ?_ ⟨rfl, rfl, rfl, rfl, rfl, rfl, rfl, trivial⟩))
       refine WC.cond rfl (fun q15 => ?_) (fun q15 => ?_)
       ·
        try simp only [Z1, Z2, Z3, Z4, Z5, Z6, Z7, Z8, Z9, Z0] at q15
        refine WC.seq (WC.region ?_)
        refine WL.q (oq_move rfl) rfl rfl rfl ?_
        refine WL.q (oq_move rfl) rfl rfl rfl ?_
        refine WL.q (oq_move rfl) rfl rfl rfl ?_
        refine WL.q (oq_slice_s1 Tryd.underlying9 rfl rfl (by (first | omega | (simp only [List.length_cons, List.length_nil, List.length_append, List.length_drop, List.length_take]; omega)))) rfl rfl rfl ?_
        refine WL.q (oq_build #[_, _, _] str80 ty80 rfl rfl) rfl rfl rfl ?_
        refine WL.q (oq_makeI conc80 rfl) rfl rfl rfl ?_
        refine WL.q (oq_assign rfl) rfl rfl rfl ?_
        refine WL.nil (WE.then_normal (WC.sub (fr' := [(8, _)]) ?_ ⟨rfl, trivial⟩))
        refine WC.ret (WE.then_ret (WE.block_ret (WE.then_ret (WE.then_ret (WE.block_ret (WE.then_ret ?_))))))
        refine WE.endW1 (.inl rfl) (res1 Tryd.results60 rfl) ?_
        exact ⟨.inr ⟨hv.dot0 (by omega) hc14_2 (by omega) (.inr (by rw [← hc15_13]; omega)), _, _, rfl⟩, _, hL, rfl⟩
       ·
        try simp only [Z1, Z2, Z3, Z4, Z5, Z6, Z7, Z8, Z9, Z0] at q15
        refine WC.skip (WE.then_normal (WC.sub (fr' := [(0, _), (3, _), (9, _), (10, _), (12, _), (13, _)]) ?_ ⟨rfl, rfl, rfl, rfl, rfl, rfl, trivial⟩))
        refine WC.seq (WC.seq (WC.region ?_))
        refine WL.q (oq_move rfl) rfl rfl rfl ?_
        refine WL.q (oq_eql rfl rfl) rfl rfl rfl ?_
        refine WL.nil (WE.then_normal (WC.sub (fr' := [(0, _), (3, _), (9, _), (10, _), (12, _), (13, _), (85, _)]) ?_ ⟨rfl, rfl, rfl, rfl, rfl, rfl, rfl, trivial⟩))
        refine WC.cond rfl (fun q17 => ?_) (fun q17 => ?_)
        ·
         try simp only [Z1, Z2, Z3, Z4, Z5, Z6, Z7, Z8, Z9, Z0] at q17
         refine WC.seq (WC.region ?_)
         refine WL.q (oq_move rfl) rfl rfl rfl ?_
         refine WL.q (oq_build #[_, _, _] str80 ty80 rfl rfl) rfl rfl rfl ?_
         refine WL.q (oq_makeI conc80 rfl) rfl rfl rfl ?_
         refine WL.q (oq_assign rfl) rfl rfl rfl ?_
         refine WL.nil (WE.then_normal (WC.sub (fr' := [(8, _)]) ?_ ⟨rfl, trivial⟩))
         refine WC.ret (WE.then_ret (WE.block_ret (WE.then_ret (WE.then_ret (WE.block_ret (WE.then_ret ?_))))))
         refine WE.endW1 (.inl rfl) (res1 Tryd.results60 rfl) ?_
         exact ⟨.inr ⟨hv.dot3 (by omega) hc14_2 (by omega) (by omega), _, _, rfl⟩, _, hL, rfl⟩
        ·
         try simp only [Z1, Z2, Z3, Z4, Z5, Z6, Z7, Z8, Z9, Z0] at q17
         refine WC.skip (WE.then_normal (WC.sub (fr' := [(0, _), (3, _), (9, _), (10, _), (12, _), (13, _)]) ?_ ⟨rfl, rfl, rfl, rfl, rfl, rfl, trivial⟩))
         refine WC.seq (WC.region ?_)
         refine WL.q (oq_move rfl) rfl rfl rfl ?_
         refine WL.q (oq_move rfl) rfl rfl rfl ?_
         refine WL.q (oq_move rfl) rfl rfl rfl ?_
         refine WL.q (oq_conv Tryd.underlying3 Tryd.underlying5 rfl (by rw [u8_lo, u8_hi]; (first | omega | (simp only [List.length_cons, List.length_nil, List.length_append, List.length_drop, List.length_take]; omega)))) rfl rfl rfl ?_
         refine WL.q (oq_ixSl (i := pos) Tryd.underlying55 ty5 rfl rfl (by first | omega | (simp only [List.length_set]; omega))) rfl rfl rfl ?_
         refine WL.storeB ty5 rfl rfl (by omega) (by first | omega | (simp only [List.length_set]; omega)) rfl ?_
         refine WL.nil (WE.then_normal (WC.sub (fr' := [(0, _), (3, _), (10, _), (12, _), (13, _)]) ?_ ⟨rfl, rfl, rfl, rfl, rfl, trivial⟩))
         refine WC.seq (WC.region ?_)
         refine WL.q (oq_move rfl) rfl rfl rfl ?_
         refine WL.q (oq_add rfl rfl (by rw [i64_lo, i64_hi]; (first | omega | (simp only [List.length_cons, List.length_nil, List.length_append, List.length_drop, List.length_take]; omega)))) rfl rfl rfl ?_
         refine WL.q (oq_assign rfl) rfl rfl rfl ?_
         refine WL.nil (WE.then_normal (WC.sub (fr' := [(0, _), (3, _), (10, _), (12, _), (13, _)]) ?_ ⟨rfl, rfl, rfl, rfl, rfl, trivial⟩))
         refine WC.seq (WC.region ?_)
         refine WL.q (oq_assign rfl) rfl rfl rfl ?_
         refine WL.nil (WE.then_normal (WC.sub (fr' := [(0, _), (3, _), (9, _), (10, _), (12, _), (13, _)]) ?_ ⟨rfl, rfl, rfl, rfl, rfl, rfl, trivial⟩))
         refine WC.region ?_
         refine WL.q (oq_assign rfl) rfl rfl rfl ?_
         refine WL.nil (WE.block_normal (WE.then_normal (WC.sub (fr' := [(0, _), (3, _), (9, _), (10, _), (11, _), (12, _), (13, _)]) ?_ ⟨rfl, rfl, rfl, rfl, rfl, rfl, rfl, trivial⟩)))
         refine WC.region ?_
         refine WL.q (oq_move rfl) rfl rfl rfl ?_
         refine WL.q (oq_add rfl rfl (by rw [i64_lo, i64_hi]; (first | omega | (simp only [List.length_cons, List.length_nil, List.length_append, List.length_drop, List.length_take]; omega)))) rfl rfl rfl ?_
         refine WL.q (oq_assign rfl) rfl rfl rfl ?_
         refine WL.nil ?_
         refine WE.again (i + 1, pos + 1, 0, 0, ps ++ [cur], [], _) ?_ ?_ ⟨rfl, rfl, rfl, rfl, rfl, rfl, rfl, trivial⟩ (List.Perm.refl _)
         ·try dsimp only
          exact ⟨hv.dot (by omega) hc14_2 (by omega) (by omega) (by omega) (by rw [← hc15_13]; omega) (by omega), by simp only [List.length_set]; exact hL⟩
         ·(try dsimp only); omega
    ·
     try simp only [Z1, Z2, Z3, Z4, Z5, Z6, Z7, Z8, Z9, Z0] at q14
     refine WC.seq (WC.region ?_)
     refine WL.q (oq_move rfl) rfl rfl rfl ?_
     refine WL.q (oq_move rfl) rfl rfl rfl ?_
     refine WL.q (oq_move rfl) rfl rfl rfl ?_
     refine WL.q (oq_slice_s1 Tryd.underlying9 rfl rfl (by (first | omega | (simp only [List.length_cons, List.length_nil, List.length_append, List.length_drop, List.length_take]; omega)))) rfl rfl rfl ?_
     refine WL.q (oq_build #[_, _, _] str80 ty80 rfl rfl) rfl rfl rfl ?_
     refine WL.q (oq_makeI conc80 rfl) rfl rfl rfl ?_
     refine WL.q (oq_assign rfl) rfl rfl rfl ?_
     refine WL.nil (WE.then_normal (WC.sub (fr' := [(8, _)]) ?_ ⟨rfl, trivial⟩))
     refine WC.ret (WE.block_ret (WE.then_ret (WE.then_ret (WE.block_ret (WE.then_ret ?_)))))
     refine WE.endW1 (.inl rfl) (res1 Tryd.results60 rfl) ?_
     exact ⟨.inr ⟨hv.other (by omega) hc14_2 (by omega) (by omega), _, _, rfl⟩, _, hL, rfl⟩
  ·
   try simp only [Z1, Z2, Z3, Z4, Z5, Z6, Z7, Z8, Z9, Z0] at q5
   refine WC.exit (WE.then_exit (WE.then_exit (WE.block_same (WE.then_normal (WC.sub (fr' := [(0, _), (3, _), (9, _), (10, _)]) ?_ ⟨rfl, rfl, rfl, rfl, trivial⟩)))))
   refine WC.seq (WC.seq (WC.region ?_))
   refine WL.q (oq_move rfl) rfl rfl rfl ?_
   refine WL.q (oq_lss rfl rfl) rfl rfl rfl ?_
   refine WL.nil (WE.then_normal (WC.sub (fr' := [(0, _), (3, _), (9, _), (103, _)]) ?_ ⟨rfl, rfl, rfl, rfl, trivial⟩))
   refine WC.cond rfl (fun q24 => ?_) (fun q24 => ?_)
   ·
    try simp only [Z1, Z2, Z3, Z4, Z5, Z6, Z7, Z8, Z9, Z0] at q24
    refine WC.seq (WC.region ?_)
    refine WL.q (oq_move rfl) rfl rfl rfl ?_
    refine WL.q (oq_build #[_, _, _] str80 ty80 rfl rfl) rfl rfl rfl ?_
    refine WL.q (oq_makeI conc80 rfl) rfl rfl rfl ?_
    refine WL.q (oq_assign rfl) rfl rfl rfl ?_
    refine WL.nil (WE.then_normal (WC.sub (fr' := [(8, _)]) ?_ ⟨rfl, trivial⟩))
    refine WC.ret (WE.then_ret ?_)
    refine WE.endW1 (.inl rfl) (res1 Tryd.results60 rfl) ?_
    exact ⟨.inr ⟨(hv.fin (by omega)).1 (by omega), _, _, rfl⟩, _, hL, rfl⟩
   ·
    try simp only [Z1, Z2, Z3, Z4, Z5, Z6, Z7, Z8, Z9, Z0] at q24
    refine WC.skip (WE.then_normal (WC.sub (fr' := [(3, _), (9, _)]) ?_ ⟨rfl, rfl, trivial⟩))
    refine WC.seq (WC.region ?_)
    refine WL.q (oq_move rfl) rfl rfl rfl ?_
    refine WL.q (oq_move rfl) rfl rfl rfl ?_
    refine WL.q (oq_conv Tryd.underlying3 Tryd.underlying5 rfl (by rw [u8_lo, u8_hi]; (first | omega | (simp only [List.length_cons, List.length_nil, List.length_append, List.length_drop, List.length_take]; omega)))) rfl rfl rfl ?_
    refine WL.q (oq_ixSl (i := 3) Tryd.underlying55 ty5 rfl rfl (by first | omega | (simp only [List.length_set]; omega))) rfl rfl rfl ?_
    refine WL.storeB ty5 rfl rfl (by omega) (by first | omega | (simp only [List.length_set]; omega)) rfl ?_
    refine WL.nil (WE.then_normal (WC.sub (fr' := []) ?_ trivial))
    refine WC.seq (WC.region ?_)
    refine WL.q (oq_assign rfl) rfl rfl rfl ?_
    refine WL.nil (WE.then_normal (WC.sub (fr' := [(8, _)]) ?_ ⟨rfl, trivial⟩))
    refine WC.ret ?_
    refine WE.endW1 (.inl rfl) (res1 Tryd.results60 rfl) ?_
    exact ⟨.inl ⟨(hv.fin (by omega)).2 (by omega), rfl⟩, _, by simp only [List.length_set]; exact hL, rfl⟩
end M8
end Go.Proofs.YtefaegocllppkaaDoor
/- Addresses of four numbers: what is made of them. -/
namespace Go.Proofs.YtefaegocllppkaaDoor
open Go Go.RowKit V L0 L1 L2 M0 M1 M2 M3 M4 M5 M6 M7 MQ M8
set_option linter.unusedSimpArgs false
set_option linter.unusedVariables false
set_option maxRecDepth 10000
namespace M9
theorem call28 : Callable Tryd.prog 28 := ⟨_, Tryd.func28, rfl, by kernel_rfl⟩
theorem call29 : Callable Tryd.prog 29 := ⟨_, Tryd.func29, rfl, by kernel_rfl⟩
theorem call43 : Callable Tryd.prog 43 := ⟨_, Tryd.func43, rfl, by kernel_rfl⟩
theorem call45 : Callable Tryd.prog 45 := ⟨_, Tryd.func45, rfl, by kernel_rfl⟩
theorem call46 : Callable Tryd.prog 46 := ⟨_, Tryd.func46, rfl, by kernel_rfl⟩
theorem call60 : Callable Tryd.prog 60 := ⟨_, Tryd.func60, rfl, by kernel_rfl⟩
theorem call61 : Callable Tryd.prog 61 := ⟨_, Tryd.func61, rfl, by kernel_rfl⟩
theorem call71 : Callable Tryd.prog 71 := ⟨_, Tryd.func71, rfl, by kernel_rfl⟩
theorem call75 : Callable Tryd.prog 75 := ⟨_, Tryd.func75, rfl, by kernel_rfl⟩
theorem flat5 : Flat Tryd.prog 5 := ⟨_, Tryd.underlying5, by simp⟩
theorem flat9 : Flat Tryd.prog 9 := ⟨_, Tryd.underlying9, by simp⟩
theorem ty5 : Ty Tryd.prog 5 (.int .u8 0) 1 1 := ty_of (by kernel_rfl)
theorem ty9 : Ty Tryd.prog 9 (S []) 1 16 := ty_of (by kernel_rfl)
theorem ty59 : Ty Tryd.prog 59 (.agg #[(.int .u64 0), (.int .u64 0)]) 2 16 := ty_of (by kernel_rfl)
theorem ty61 : Ty Tryd.prog 61 (.agg #[(.bool false), (S [])]) 2 24 := ty_of (by kernel_rfl)
theorem ty63 : Ty Tryd.prog 63 (.agg #[(.bool false), (.bool false), (S [])]) 3 32 := ty_of (by kernel_rfl)
theorem ty65 : Ty Tryd.prog 65 (.agg #[(.int .u64 0), (.int .u64 0), (.bool false), (.bool false), (S [])]) 5 48 := ty_of (by kernel_rfl)
theorem ty80 : Ty Tryd.prog 80 (.agg #[(S []), (S []), (S [])]) 3 48 := ty_of (by kernel_rfl)
theorem ty103 : Ty Tryd.prog 103 (.agg #[(.int .u8 0), (.int .u8 0), (.int .u8 0), (.int .u8 0)]) 4 4 := ty_of (by kernel_rfl)
theorem conc80 : Conc Tryd.prog 80 := ⟨_, Tryd.underlying80, by simp⟩
theorem agg61 : Agg Tryd.prog 61 := agg_of Tryd.underlying61
theorem agg63 : Agg Tryd.prog 63 := agg_of Tryd.underlying63
theorem agg65 : Agg Tryd.prog 65 := agg_of Tryd.underlying65
theorem agg103 : Agg Tryd.prog 103 := agg_arr Tryd.underlying103
theorem str59 : Str Tryd.prog 59 #[(0, 1), (1, 1)] := ⟨_, Tryd.underlying59, fun w => by kernel_rfl⟩
theorem str61 : Str Tryd.prog 61 #[(0, 1), (1, 1)] := ⟨_, Tryd.underlying61, fun w => by kernel_rfl⟩
theorem str63 : Str Tryd.prog 63 #[(0, 1), (1, 2)] := ⟨_, Tryd.underlying63, fun w => by kernel_rfl⟩
theorem str65 : Str Tryd.prog 65 #[(0, 2), (2, 3)] := ⟨_, Tryd.underlying65, fun w => by kernel_rfl⟩
theorem str80 : Str Tryd.prog 80 #[(0, 1), (1, 1), (2, 1)] := ⟨_, Tryd.underlying80, fun w => by kernel_rfl⟩
theorem fld61_1 : Fld Tryd.prog 61 1 1 9 := fld_of Tryd.underlying61 rfl rfl rfl ty9 (by decide)
theorem fld63_1 : Fld Tryd.prog 63 1 1 61 := fld_of Tryd.underlying63 rfl rfl rfl ty61 (by decide)
theorem fld65_1 : Fld Tryd.prog 65 1 2 63 := fld_of Tryd.underlying65 rfl rfl rfl ty63 (by decide)
def IPz (v : Value) : Prop := ∃ z, v = .agg #[.int .u64 0, .int .u64 z, .bool true, .bool false, S []]
def IPv (s : List UInt8) (v : Value) : Prop := ∃ a b c d e, v = .tuple #[.agg #[.int .u64 a, .int .u64 b, .bool c, .bool d, S []], e] ∧ ((four s = true ∧ e = .nilIface ∧ c = true ∧ d = false) ∨ (four s = false ∧ ∃ k u, e = .iface k u))
theorem len4 {L : List UInt8} (h : L.length = 4) : ∃ a b c d, L = [a, b, c, d] := by
 match L, h with
 | [a, b, c, d], _ => exact ⟨a, b, c, d, rfl⟩
theorem nodot_step {s : List UInt8} {i : Nat} {x : Int} (hi : i < s.length) (hn : (46 : UInt8) ∉ s.take i) (hx : x = byteAt s (i : Int)) (h : ¬ x = 46) : (46 : UInt8) ∉ s.take (i + 1) := by
 rw [List.take_succ_eq_append_getElem hi]
 intro e
 rcases List.mem_append.1 e with e | e
 ·exact hn e
 ·rw [List.mem_singleton] at e
  rw [byteAt_get s i hi, ← e] at hx
  exact h hx
theorem hset_ne : ∀ c ∈ HSET, c.toNat ≠ 58 ∧ c.toNat ≠ 37 := by decide +kernel
theorem hset_at {s : List UInt8} {i : Nat} {x : Int} (hi : i < s.length) (hh : ∀ c ∈ s, c ∈ HSET) (hx : x = byteAt s (i : Int)) : x ≠ 58 ∧ x ≠ 37 := by
 rw [byteAt_get s i hi] at hx
 have := hset_ne _ (hh _ (List.getElem_mem hi))
 omega
theorem mkHandle  : Fn0 Tryd.prog 75 [.agg #[.bool false, S []]] (.agg #[.bool true, .bool false, S []]) := by
 refine Fn0.enter (n := 5) Tryd.func75 rfl rfl fun w0 => ?_
 refine WC.sub (fr' := [(0, _)]) ?_ ⟨rfl, trivial⟩
 refine WC.seq (WC.region ?_)
 refine WL.box rfl rfl rfl fun b0 hb0 => ?_
 refine WL.alloc ty63 rfl rfl fun b1 hb1 => ?_
 refine WL.nil (WE.then_normal (WC.sub (fr' := [(1, _), (2, _)]) ?_ ⟨rfl, rfl, trivial⟩))
 refine WC.seq (WC.region ?_)
 refine WL.q (oq_loadS [_, _] agg61 ty61 rfl (.tail _ (.head _)) (List.mem_singleton.2 rfl) rfl rfl) rfl rfl rfl ?_
 refine WL.q (oq_build #[_, _, _] str63 ty63 rfl rfl) rfl rfl rfl ?_
 refine WL.storeS #[_, _, _] ty63 rfl rfl rfl rfl (Nat.le_of_ble_eq_true rfl) rfl rfl ?_
 refine WL.nil (WE.then_normal (WC.sub (fr' := [(2, _)]) ?_ ⟨rfl, trivial⟩))
 refine WC.ret ?_
 refine WE.endD0 (.inl rfl) (rs1 Tryd.results75 (rv_cellS [_, _, _] agg63 ty63 rfl (.head _) (List.mem_singleton.2 rfl) rfl rfl)) (dr_lose hb1 (dr_lose hb0 dr_refl)) ?_
 rfl
theorem z4  : Fn0 Tryd.prog 71 [] (.agg #[.bool true, .bool false, S []]) := by
 refine Fn0.enter (n := 3) Tryd.func71 rfl rfl fun w0 => ?_
 refine WC.sub (fr' := []) ?_ trivial
 refine WC.seq (WC.region ?_)
 refine WL.alloc ty63 rfl rfl fun b0 hb0 => ?_
 refine WL.nil (WE.then_normal (WC.sub (fr' := [(0, _)]) ?_ ⟨rfl, trivial⟩))
 refine WC.seq (WC.region ?_)
 refine WL.q (oq_build #[_, _] str61 ty61 rfl rfl) rfl rfl rfl ?_
 refine WL.qc (oq_call (mkHandle) call75 rfl) rfl rfl rfl ?_
 refine WL.storeS #[_, _, _] ty63 rfl rfl rfl rfl (Nat.le_of_ble_eq_true rfl) rfl rfl ?_
 refine WL.nil (WE.then_normal (WC.sub (fr' := [(0, _)]) ?_ ⟨rfl, trivial⟩))
 refine WC.ret ?_
 refine WE.endD0 (.inl rfl) (rs1 Tryd.results71 (rv_cellS [_, _, _] agg63 ty63 rfl (.head _) (List.mem_singleton.2 rfl) rfl rfl)) (dr_lose hb0 dr_refl) ?_
 rfl
theorem z0  : Fn0 Tryd.prog 45 [] (.agg #[.bool false, .bool false, S []]) := by
 refine Fn0.enter (n := 2) Tryd.func45 rfl rfl fun w0 => ?_
 refine WC.sub (fr' := []) ?_ trivial
 refine WC.seq (WC.region ?_)
 refine WL.alloc ty63 rfl rfl fun b0 hb0 => ?_
 refine WL.nil (WE.then_normal (WC.sub (fr' := [(0, _)]) ?_ ⟨rfl, trivial⟩))
 refine WC.seq (WC.region ?_)
 refine WL.q (oq_build #[_, _, _] str63 ty63 rfl rfl) rfl rfl rfl ?_
 refine WL.storeS #[_, _, _] ty63 rfl rfl rfl rfl (Nat.le_of_ble_eq_true rfl) rfl rfl ?_
 refine WL.nil (WE.then_normal (WC.sub (fr' := [(0, _)]) ?_ ⟨rfl, trivial⟩))
 refine WC.ret ?_
 refine WE.endD0 (.inl rfl) (rs1 Tryd.results45 (rv_cellS [_, _, _] agg63 ty63 rfl (.head _) (List.mem_singleton.2 rfl) rfl rfl)) (dr_lose hb0 dr_refl) ?_
 rfl
theorem hvalue (c d : Bool) : Fn0 Tryd.prog 46 [.agg #[.bool c, .bool d, S []]] (.agg #[.bool d, S []]) := by
 refine Fn0.enter (n := 5) Tryd.func46 rfl rfl fun w0 => ?_
 refine WC.sub (fr' := [(0, _)]) ?_ ⟨rfl, trivial⟩
 refine WC.seq (WC.region ?_)
 refine WL.box rfl rfl rfl fun b0 hb0 => ?_
 refine WL.alloc ty61 rfl rfl fun b1 hb1 => ?_
 refine WL.nil (WE.then_normal (WC.sub (fr' := [(1, _), (2, _)]) ?_ ⟨rfl, rfl, trivial⟩))
 refine WC.seq (WC.region ?_)
 refine WL.q (oq_fieldAddr fld63_1 rfl) rfl rfl rfl ?_
 refine WL.q (oq_loadS [_, _] agg61 ty61 rfl (.tail _ (.head _)) (List.mem_singleton.2 rfl) rfl rfl) rfl rfl rfl ?_
 refine WL.storeS #[_, _] ty61 rfl rfl rfl rfl (Nat.le_of_ble_eq_true rfl) rfl rfl ?_
 refine WL.nil (WE.then_normal (WC.sub (fr' := [(2, _)]) ?_ ⟨rfl, trivial⟩))
 refine WC.ret ?_
 refine WE.endD0 (.inl rfl) (rs1 Tryd.results46 (rv_cellS [_, _] agg61 ty61 rfl (.head _) (List.mem_singleton.2 rfl) rfl rfl)) (dr_lose hb1 (dr_lose hb0 dr_refl)) ?_
 rfl
theorem zone (a b : Int) (c d : Bool) : Fn0 Tryd.prog 29 [.agg #[.int .u64 a, .int .u64 b, .bool c, .bool d, S []]] (S []) := by
 refine Fn0.enter (n := 11) Tryd.func29 rfl rfl fun w0 => ?_
 refine WC.sub (fr' := [(0, _)]) ?_ ⟨rfl, trivial⟩
 refine WC.seq (WC.region ?_)
 refine WL.box rfl rfl rfl fun b0 hb0 => ?_
 refine WL.q (oq_assign rfl) rfl rfl rfl ?_
 refine WL.nil (WE.then_normal (WC.sub (fr' := [(1, _)]) ?_ ⟨rfl, trivial⟩))
 refine WC.seq (WC.seq (WC.quiet (by kernel_rfl) (by kernel_rfl) ?_))
 refine WQ.q (oq_fieldAddr fld65_1 rfl) rfl rfl rfl ?_
 refine WQ.q (oq_loadS [_, _, _] agg63 ty63 rfl (.head _) (List.mem_singleton.2 rfl) rfl rfl) rfl rfl rfl ?_
 refine WQ.qc (oq_call (z0) call45 rfl) rfl rfl rfl ?_
 refine WQ.q (oq_eqHan rfl rfl) rfl rfl rfl ?_
 refine WQ.nil (WE.then_normal (WC.sub (fr' := [(1, _), (6, _)]) ?_ ⟨rfl, rfl, trivial⟩))
 refine WC.cond rfl (fun q1 => ?_) (fun q1 => ?_)
 ·
  try simp only [Z1, Z2, Z3, Z4, Z5, Z6, Z7, Z8, Z9, Z0] at q1
  refine WC.seq (WC.region ?_)
  refine WL.q (oq_assign rfl) rfl rfl rfl ?_
  refine WL.nil (WE.then_normal (WC.sub (fr' := [(2, _)]) ?_ ⟨rfl, trivial⟩))
  refine WC.ret (WE.then_ret ?_)
  refine WE.lose hb0 ?_
  refine WE.end0 (.inl rfl) (res1 Tryd.results29 rfl) ?_
  rfl
 ·
  try simp only [Z1, Z2, Z3, Z4, Z5, Z6, Z7, Z8, Z9, Z0] at q1
  refine WC.skip (WE.then_normal (WC.sub (fr' := [(1, _)]) ?_ ⟨rfl, trivial⟩))
  refine WC.seq (WC.region ?_)
  refine WL.q (oq_fieldAddr fld65_1 rfl) rfl rfl rfl ?_
  refine WL.q (oq_loadS [_, _, _] agg63 ty63 rfl (.head _) (List.mem_singleton.2 rfl) rfl rfl) rfl rfl rfl ?_
  refine WL.qc (oq_call (hvalue c d) call46 rfl) rfl rfl rfl ?_
  refine WL.q (oq_field fld61_1 flat9 rfl rfl) rfl rfl rfl ?_
  refine WL.q (oq_assign rfl) rfl rfl rfl ?_
  refine WL.nil (WE.then_normal (WC.sub (fr' := [(2, _)]) ?_ ⟨rfl, trivial⟩))
  refine WC.ret ?_
  refine WE.lose hb0 ?_
  refine WE.end0 (.inl rfl) (res1 Tryd.results29 rfl) ?_
  rfl
theorem addr4 (a b c d : Int) (ha : 0 ≤ a ∧ a < 256) (hb : 0 ≤ b ∧ b < 256) (hc : 0 ≤ c ∧ c < 256) (hd : 0 ≤ d ∧ d < 256) : FnA Tryd.prog 61 [.agg #[.int .u8 a, .int .u8 b, .int .u8 c, .int .u8 d]] [] (fun v N => IPz v) := by
 refine FnA.enter0 (n := 25) Tryd.func61 rfl rfl fun w0 => ?_
 refine WC.sub (fr' := [(0, _)]) ?_ ⟨rfl, trivial⟩
 refine WC.seq (WC.region ?_)
 refine WL.box rfl rfl rfl fun b0 hb0 => ?_
 refine WL.alloc ty65 rfl rfl fun b1 hb1 => ?_
 refine WL.nil (WE.then_normal (WC.sub (fr' := [(1, _), (2, _)]) ?_ ⟨rfl, rfl, trivial⟩))
 refine WC.seq ?_
 refine WC.held ([(b0, .cells #[.int .u8 a, .int .u8 b, .int .u8 c, .int .u8 d] 103 (0, 0))]) (by kernel_rfl) ?_
 refine WH.q 0 rfl (.tail _ (.head _)) (fun w0 => oq_ixArr (i := 0) Tryd.underlying103 ty5 rfl rfl (by (first | omega | (simp only [List.length_cons, List.length_nil, List.length_append, List.length_drop, List.length_take]; omega)))) rfl rfl rfl ?_
 refine WH.q 1 rfl (.tail _ (.head _)) (fun w0 => oq_load flat5 rfl (.head _) (List.mem_singleton.2 rfl) (rfl)) rfl rfl rfl ?_
 refine WH.q 2 rfl (.tail _ (.head _)) (fun w0 => oq_conv Tryd.underlying5 Tryd.underlying57 rfl (by rw [u64_lo, u64_hi]; (first | omega | (simp only [List.length_cons, List.length_nil, List.length_append, List.length_drop, List.length_take]; omega)))) rfl rfl rfl ?_
 refine WH.q 3 rfl (.tail _ (.head _)) (fun w0 => oq_shl rfl rfl (by omega)) rfl rfl rfl ?_
 refine WH.q 4 rfl (.tail _ (.head _)) (fun w0 => oq_bits (op := .or) rfl rfl (by simp)) rfl rfl rfl ?_
 refine WH.q 5 rfl (.tail _ (.head _)) (fun w0 => oq_ixArr (i := 1) Tryd.underlying103 ty5 rfl rfl (by (first | omega | (simp only [List.length_cons, List.length_nil, List.length_append, List.length_drop, List.length_take]; omega)))) rfl rfl rfl ?_
 refine WH.q 6 rfl (.tail _ (.head _)) (fun w0 => oq_load flat5 rfl (.head _) (List.mem_singleton.2 rfl) (rfl)) rfl rfl rfl ?_
 refine WH.q 7 rfl (.tail _ (.head _)) (fun w0 => oq_conv Tryd.underlying5 Tryd.underlying57 rfl (by rw [u64_lo, u64_hi]; (first | omega | (simp only [List.length_cons, List.length_nil, List.length_append, List.length_drop, List.length_take]; omega)))) rfl rfl rfl ?_
 refine WH.q 8 rfl (.tail _ (.head _)) (fun w0 => oq_shl rfl rfl (by omega)) rfl rfl rfl ?_
 refine WH.q 9 rfl (.tail _ (.head _)) (fun w0 => oq_bits (op := .or) rfl rfl (by simp)) rfl rfl rfl ?_
 refine WH.q 10 rfl (.tail _ (.head _)) (fun w0 => oq_ixArr (i := 2) Tryd.underlying103 ty5 rfl rfl (by (first | omega | (simp only [List.length_cons, List.length_nil, List.length_append, List.length_drop, List.length_take]; omega)))) rfl rfl rfl ?_
 refine WH.q 11 rfl (.tail _ (.head _)) (fun w0 => oq_load flat5 rfl (.head _) (List.mem_singleton.2 rfl) (rfl)) rfl rfl rfl ?_
 refine WH.q 12 rfl (.tail _ (.head _)) (fun w0 => oq_conv Tryd.underlying5 Tryd.underlying57 rfl (by rw [u64_lo, u64_hi]; (first | omega | (simp only [List.length_cons, List.length_nil, List.length_append, List.length_drop, List.length_take]; omega)))) rfl rfl rfl ?_
 refine WH.q 13 rfl (.tail _ (.head _)) (fun w0 => oq_shl rfl rfl (by omega)) rfl rfl rfl ?_
 refine WH.q 14 rfl (.tail _ (.head _)) (fun w0 => oq_bits (op := .or) rfl rfl (by simp)) rfl rfl rfl ?_
 refine WH.q 15 rfl (.tail _ (.head _)) (fun w0 => oq_ixArr (i := 3) Tryd.underlying103 ty5 rfl rfl (by (first | omega | (simp only [List.length_cons, List.length_nil, List.length_append, List.length_drop, List.length_take]; omega)))) rfl rfl rfl ?_
 refine WH.q 16 rfl (.tail _ (.head _)) (fun w0 => oq_load flat5 rfl (.head _) (List.mem_singleton.2 rfl) (rfl)) rfl rfl rfl ?_
 refine WH.q 17 rfl (.tail _ (.head _)) (fun w0 => oq_conv Tryd.underlying5 Tryd.underlying57 rfl (by rw [u64_lo, u64_hi]; (first | omega | (simp only [List.length_cons, List.length_nil, List.length_append, List.length_drop, List.length_take]; omega)))) rfl rfl rfl ?_
 refine WH.q 18 rfl (.tail _ (.head _)) (fun w0 => oq_bits (op := .or) rfl rfl (by simp)) rfl rfl rfl ?_
 refine WH.q 19 rfl (.tail _ (.head _)) (fun w0 => oq_build #[_, _] str59 ty59 rfl rfl) rfl rfl rfl ?_
 refine WH.step (i := 20) (by kernel_rfl) rfl ?_
 refine WL.qc (oq_call (z4) call71 rfl) rfl rfl rfl ?_
 refine WL.nil ?_
 refine WE.toH (.tail _ (.head _)) ?_
 refine WH.q 21 rfl (.tail _ (.head _)) (fun w0 => oq_build #[_, _, _, _, _] str65 ty65 rfl rfl) rfl rfl rfl ?_
 refine WH.step (i := 22) (by kernel_rfl) rfl ?_
 refine WL.storeS #[_, _, _, _, _] ty65 rfl rfl rfl rfl (Nat.le_of_ble_eq_true rfl) rfl rfl ?_
 refine WL.nil ?_
 refine WE.toH (.tail _ (.head _)) ?_
 refine WH.done (by kernel_rfl) ?_
 refine WE.then_normal (WC.sub (fr' := [(2, _)]) ?_ ⟨rfl, trivial⟩)
 refine WC.ret ?_
 refine WE.endDA0 (.inl rfl) (rs1 Tryd.results61 (rv_cellS [_, _, _, _, _] agg65 ty65 rfl (.head _) (List.mem_singleton.2 rfl) rfl rfl)) (dr_lose hb1 (dr_lose hb0 (dr_add0 dr_refl))) fresh0 ?_
 exact ⟨_, rfl⟩
theorem parseV4 (s : List UInt8) (hs : s.length ≤ 100000) : FnA Tryd.prog 43 [S s] [] (fun v N => IPv s v) := by
 refine FnA.enter0 (n := 16) Tryd.func43 rfl rfl fun w0 => ?_
 refine WC.sub (fr' := [(0, _)]) ?_ ⟨rfl, trivial⟩
 refine WC.seq (WC.region ?_)
 refine WL.alloc ty65 rfl rfl fun r2 hr2 => ?_
 refine WL.q (oq_assign rfl) rfl rfl rfl ?_
 refine WL.nil (WE.then_normal (WC.sub (fr' := [(0, _), (2, _)]) ?_ ⟨rfl, rfl, trivial⟩))
 refine WC.seq (WC.region ?_)
 refine WL.alloc ty103 rfl rfl fun fb hfb => ?_
 refine WL.asB (List.replicate 4 0) rfl ?_
 refine WL.nil (WE.then_normal (WC.sub (fr' := [(0, _), (2, _), (4, _)]) ?_ ⟨rfl, rfl, rfl, trivial⟩))
 refine WC.seq (WC.region ?_)
 refine WL.q (oq_move rfl) rfl rfl rfl ?_
 refine WL.q (oq_move rfl) rfl rfl rfl ?_
 refine WL.q (oq_len_s Tryd.underlying9 rfl) rfl rfl rfl ?_
 refine WL.q (oq_sliceArr Tryd.underlying103 ty5 rfl rfl rfl (by (first | omega | (simp only [List.length_cons, List.length_nil, List.length_append, List.length_drop, List.length_take]; omega))) (by (first | omega | (simp only [List.length_cons, List.length_nil, List.length_append, List.length_drop, List.length_take]; omega)))) rfl rfl rfl ?_
 refine WL.callW1 (v4Fields _ fb s hs (List.replicate 4 0) rfl) call60 rfl rfl rfl fun v2_4 Hs2_4 hR2_4 => ?_
 obtain ⟨hv, L, hL, rfl⟩ := hR2_4
 obtain ⟨a, b, c, d, rfl⟩ : ∃ a b c d, L = [a, b, c, d] := len4 hL
 refine WL.to1 ?_
 refine WL.q (oq_assign rfl) rfl rfl rfl ?_
 refine WL.nil (WE.then_normal (WC.sub (fr' := [(2, _), (3, _), (4, _)]) ?_ ⟨rfl, rfl, rfl, trivial⟩))
 refine WC.seq (WC.seq (WC.region ?_))
 refine WL.q (oq_move rfl) rfl rfl rfl ?_
 refine WL.q (oq_ineq Tryd.underlying39 rfl ((by rcases hv with ⟨_, h⟩ | ⟨_, h⟩; exact .inl h; exact .inr h))) rfl rfl rfl ?_
 refine WL.nil (WE.then_normal (WC.sub (fr' := [(2, _), (3, _), (4, _), (11, _)]) ?_ ⟨rfl, rfl, rfl, rfl, trivial⟩))
 refine WC.cond rfl (fun q3 => ?_) (fun q3 => ?_)
 ·
  try simp only [Z1, Z2, Z3, Z4, Z5, Z6, Z7, Z8, Z9, Z0] at q3
  refine WC.seq (WC.region ?_)
  refine WL.q (oq_build #[_, _, _, _, _] str65 ty65 rfl rfl) rfl rfl rfl ?_
  refine WL.q (oq_move rfl) rfl rfl rfl ?_
  refine WL.f1 ?_
  refine WL.storeS #[_, _, _, _, _] ty65 rfl rfl rfl rfl (Nat.le_of_ble_eq_true rfl) rfl rfl ?_
  refine WL.q (oq_assign rfl) rfl rfl rfl ?_
  refine WL.nil (WE.then_normal (WC.sub (fr' := [(2, _), (3, _)]) ?_ ⟨rfl, rfl, trivial⟩))
  refine WC.ret (WE.then_ret ?_)
  refine WE.endDA0 (.inl rfl) (rs2 Tryd.results43 (rv_cellS [_, _, _, _, _] agg65 ty65 rfl (.head _) (List.mem_singleton.2 rfl) rfl rfl) (rv_tmp rfl)) (dr_lose hr2 (dr_lose hfb (dr_add0 dr_refl))) fresh0 ?_
  exact ⟨_, _, _, _, _, rfl, .inr (hv.resolve_left (fun h => by rw [h.2] at q3; simp [nilI] at q3))⟩
 ·
  try simp only [Z1, Z2, Z3, Z4, Z5, Z6, Z7, Z8, Z9, Z0] at q3
  refine WC.skip (WE.then_normal (WC.sub (fr' := [(2, _), (4, _)]) ?_ ⟨rfl, rfl, trivial⟩))
  refine WC.seq (WC.region ?_)
  refine WL.q (oq_loadArr agg103 ty103 (rfl) rfl (.head _)) rfl rfl rfl ?_
  refine WL.callA0 (addr4 (a.toNat : Int) (b.toNat : Int) (c.toNat : Int) (d.toNat : Int) (by have := a.toNat_lt; omega) (by have := b.toNat_lt; omega) (by have := c.toNat_lt; omega) (by have := d.toNat_lt; omega)) call61 rfl rfl rfl fun v5_1 N5_1 hR5_1 hN5_1 => ?_
  obtain ⟨z, rfl⟩ := hR5_1
  refine WL.f2 ?_
  refine WL.storeS #[_, _, _, _, _] ty65 rfl rfl rfl rfl (Nat.le_of_ble_eq_true rfl) rfl rfl ?_
  refine WL.q (oq_assign rfl) rfl rfl rfl ?_
  refine WL.nil (WE.then_normal (WC.sub (fr' := [(2, _), (3, _)]) ?_ ⟨rfl, rfl, trivial⟩))
  refine WC.ret ?_
  refine WE.endDA0 (.inl rfl) (rs2 Tryd.results43 (rv_cellS [_, _, _, _, _] agg65 ty65 rfl (.head _) (List.mem_singleton.2 rfl) rfl rfl) (rv_tmp rfl)) (dr_lose hr2 (dr_forget hN5_1 (dr_lose hfb (dr_add0 dr_refl)))) fresh0 ?_
  exact ⟨_, _, _, _, _, rfl, .inl ⟨(hv.resolve_right (fun ⟨_, k, u, h⟩ => by rw [h] at q3; simp [nilI] at q3)).1, rfl, rfl, rfl⟩⟩
theorem parseAddr (s : List UInt8) (hs : s.length ≤ 100000) (hh : ∀ c ∈ s, c ∈ HSET) : FnA Tryd.prog 28 [S s] [] (fun v N => IPv s v) := by
 refine FnA.enter0 (n := 36) Tryd.func28 rfl rfl fun w0 => ?_
 refine WC.sub (fr' := [(0, _)]) ?_ ⟨rfl, trivial⟩
 refine WC.seq (WC.region ?_)
 refine WL.alloc ty65 rfl rfl fun r2 hr2 => ?_
 refine WL.q (oq_assign rfl) rfl rfl rfl ?_
 refine WL.nil (WE.then_normal (WC.sub (fr' := [(0, _), (2, _)]) ?_ ⟨rfl, rfl, trivial⟩))
 refine WC.seq (WC.seq (WC.region ?_))
 refine WL.q (oq_assign rfl) rfl rfl rfl ?_
 refine WL.nil (WE.then_normal (WC.sub (fr' := [(0, _), (2, _), (4, _)]) ?_ ⟨rfl, rfl, rfl, trivial⟩))
 refine WC.block ?_
 refine WC.loop (ι := Nat) (fun (i : Nat) => [(0, S s), (2, Pt r2 0), (4, I (i : Int))]) (fun (i : Nat) => [[(r2, .cells #[.int .u64 0, .int .u64 0, .bool false, .bool false, S []] 65 (0, 0))]]) (fun (i : Nat) => i ≤ s.length ∧ (46 : UInt8) ∉ s.take i) (fun (i : Nat) => s.length - i) (0) ?_ ⟨rfl, rfl, rfl, trivial⟩ (List.Perm.refl _) ?_
 ·try dsimp only
  exact ⟨by omega, by simp⟩
 ·rintro i hp
  try dsimp only at hp
  obtain ⟨hi, hn⟩ := hp
  show WC _ _ _ _ _ _ ([(0, S s), (2, Pt r2 0), (4, I (i : Int))]) ([[(r2, .cells #[.int .u64 0, .int .u64 0, .bool false, .bool false, S []] 65 (0, 0))]])
  refine WC.seq (WC.seq (WC.region ?_))
  refine WL.q (oq_move rfl) rfl rfl rfl ?_
  refine WL.q (oq_move rfl) rfl rfl rfl ?_
  refine WL.q (oq_len_s Tryd.underlying9 rfl) rfl rfl rfl ?_
  refine WL.q (oq_lss rfl rfl) rfl rfl rfl ?_
  refine WL.nil (WE.then_normal (WC.sub (fr' := [(0, _), (2, _), (4, _), (8, _)]) ?_ ⟨rfl, rfl, rfl, rfl, trivial⟩))
  refine WC.cond rfl (fun q2 => ?_) (fun q2 => ?_)
  ·
   try simp only [Z1, Z2, Z3, Z4, Z5, Z6, Z7, Z8, Z9, Z0] at q2
   refine WC.skip (WE.then_normal (WC.sub (fr' := [(0, _), (2, _), (4, _)]) ?_ ⟨rfl, rfl, rfl, trivial⟩))
   refine WC.seq (WC.block (WC.seq (WC.region ?_)))
   refine WL.q (oq_move rfl) rfl rfl rfl ?_
   refine WL.q (oq_move rfl) rfl rfl rfl ?_
   refine WL.index_s Tryd.underlying9 rfl rfl (by (first | omega | (simp only [List.length_cons, List.length_nil, List.length_append, List.length_drop, List.length_take]; omega))) rfl rfl fun c4_2 hc4_2 hc4_2l hc4_2u => ?_
   refine WL.nil (WE.then_normal (WC.sub (fr' := [(0, _), (2, _), (4, _), (13, _)]) ?_ ⟨rfl, rfl, rfl, rfl, trivial⟩))
   refine WC.block (WC.seq ?_)
   have hcs := hset_at (by omega) hh hc4_2
   refine WC.region ?_
   refine WL.q (oq_eql rfl rfl) rfl rfl rfl ?_
   refine WL.q (oq_assign rfl) rfl rfl rfl ?_
   refine WL.nil (WE.then_normal (WC.sub (fr' := [(0, _), (2, _), (4, _), (13, _), (14, _)]) ?_ ⟨rfl, rfl, rfl, rfl, rfl, trivial⟩))
   refine WC.cond rfl (fun q5 => ?_) (fun q5 => ?_)
   ·
    try simp only [Z1, Z2, Z3, Z4, Z5, Z6, Z7, Z8, Z9, Z0] at q5
    refine WC.seq (WC.region ?_)
    refine WL.q (oq_move rfl) rfl rfl rfl ?_
    refine WL.callA0 (parseV4 s hs) call43 rfl rfl rfl fun v6_1 N6_1 hR6_1 hN6_1 => ?_
    obtain ⟨a, b, c, d, e, rfl, he⟩ := hR6_1
    refine WL.q (oq_extract rfl rfl) rfl rfl rfl ?_
    refine WL.q (oq_extract rfl rfl) rfl rfl rfl ?_
    refine WL.f1 ?_
    refine WL.storeS #[_, _, _, _, _] ty65 rfl rfl rfl rfl (Nat.le_of_ble_eq_true rfl) rfl rfl ?_
    refine WL.q (oq_assign rfl) rfl rfl rfl ?_
    refine WL.nil (WE.then_normal (WC.sub (fr' := [(2, _), (3, _)]) ?_ ⟨rfl, rfl, trivial⟩))
    refine WC.ret (WE.block_ret (WE.block_ret (WE.then_ret (WE.then_ret (WE.block_ret (WE.then_ret ?_))))))
    refine WE.endDA0 (.inl rfl) (rs2 Tryd.results28 (rv_cellS [_, _, _, _, _] agg65 ty65 rfl (.head _) (List.mem_singleton.2 rfl) rfl rfl) (rv_tmp rfl)) (dr_lose hr2 (dr_forget hN6_1 (dr_add0 dr_refl))) fresh0 ?_
    first | exact ⟨a, b, c, d, e, rfl, he⟩ | exact ⟨_, _, _, _, _, rfl, .inr ⟨four_nodot (by rwa [List.take_of_length_le (by omega)] at hn), _, _, rfl⟩⟩
   ·
    try simp only [Z1, Z2, Z3, Z4, Z5, Z6, Z7, Z8, Z9, Z0] at q5
    refine WC.seq (WC.region ?_)
    refine WL.q (oq_eql rfl rfl) rfl rfl rfl ?_
    refine WL.q (oq_assign rfl) rfl rfl rfl ?_
    refine WL.nil (WE.then_normal (WC.sub (fr' := [(0, _), (2, _), (4, _), (13, _), (20, _)]) ?_ ⟨rfl, rfl, rfl, rfl, rfl, trivial⟩))
    refine WC.cond rfl (fun q7 => ?_) (fun q7 => ?_)
    ·
     try simp only [Z1, Z2, Z3, Z4, Z5, Z6, Z7, Z8, Z9, Z0] at q7
     refine WC.seq ?_
     omega
    ·
     try simp only [Z1, Z2, Z3, Z4, Z5, Z6, Z7, Z8, Z9, Z0] at q7
     refine WC.seq (WC.region ?_)
     refine WL.q (oq_eql rfl rfl) rfl rfl rfl ?_
     refine WL.q (oq_assign rfl) rfl rfl rfl ?_
     refine WL.nil (WE.then_normal (WC.sub (fr' := [(0, _), (2, _), (4, _), (26, _)]) ?_ ⟨rfl, rfl, rfl, rfl, trivial⟩))
     refine WC.cond rfl (fun q9 => ?_) (fun q9 => ?_)
     ·
      try simp only [Z1, Z2, Z3, Z4, Z5, Z6, Z7, Z8, Z9, Z0] at q9
      refine WC.seq ?_
      omega
     ·
      try simp only [Z1, Z2, Z3, Z4, Z5, Z6, Z7, Z8, Z9, Z0] at q9
      refine WC.skip (WE.block_normal (WE.block_normal (WE.then_normal (WC.sub (fr' := [(0, _), (2, _), (4, _)]) ?_ ⟨rfl, rfl, rfl, trivial⟩))))
      refine WC.region ?_
      refine WL.q (oq_move rfl) rfl rfl rfl ?_
      refine WL.q (oq_add rfl rfl (by rw [i64_lo, i64_hi]; (first | omega | (simp only [List.length_cons, List.length_nil, List.length_append, List.length_drop, List.length_take]; omega)))) rfl rfl rfl ?_
      refine WL.q (oq_assign rfl) rfl rfl rfl ?_
      refine WL.nil ?_
      refine WE.again (i + 1) ?_ ?_ ⟨rfl, rfl, rfl, trivial⟩ (List.Perm.refl _)
      ·try dsimp only
       exact ⟨by omega, nodot_step (by omega) hn hc4_2 (by omega)⟩
      ·(try dsimp only); omega
  ·
   try simp only [Z1, Z2, Z3, Z4, Z5, Z6, Z7, Z8, Z9, Z0] at q2
   refine WC.exit (WE.then_exit (WE.then_exit (WE.block_same (WE.then_normal (WC.sub (fr' := [(0, _), (2, _)]) ?_ ⟨rfl, rfl, trivial⟩)))))
   refine WC.seq (WC.region ?_)
   refine WL.q (oq_build #[_, _, _, _, _] str65 ty65 rfl rfl) rfl rfl rfl ?_
   refine WL.q (oq_move rfl) rfl rfl rfl ?_
   refine WL.q (oq_build #[_, _, _] str80 ty80 rfl rfl) rfl rfl rfl ?_
   refine WL.q (oq_makeI conc80 rfl) rfl rfl rfl ?_
   refine WL.storeS #[_, _, _, _, _] ty65 rfl rfl rfl rfl (Nat.le_of_ble_eq_true rfl) rfl rfl ?_
   refine WL.q (oq_assign rfl) rfl rfl rfl ?_
   refine WL.nil (WE.then_normal (WC.sub (fr' := [(2, _), (3, _)]) ?_ ⟨rfl, rfl, trivial⟩))
   refine WC.ret ?_
   refine WE.endDA0 (.inl rfl) (rs2 Tryd.results28 (rv_cellS [_, _, _, _, _] agg65 ty65 rfl (.head _) (List.mem_singleton.2 rfl) rfl rfl) (rv_tmp rfl)) (dr_lose hr2 (dr_add0 dr_refl)) fresh0 ?_
   first | exact ⟨a, b, c, d, e, rfl, he⟩ | exact ⟨_, _, _, _, _, rfl, .inr ⟨four_nodot (by rwa [List.take_of_length_le (by omega)] at hn), _, _, rfl⟩⟩
theorem isIP (s : List UInt8) (hs : s.length ≤ 100000) (hh : ∀ c ∈ s, c ∈ HSET) : FnA Tryd.prog 18 [S s] [] (fun v N => v = .bool (four s)) := by
 refine FnA.enter0 (n := 17) Tryd.func18 rfl rfl fun w0 => ?_
 refine WC.sub (fr' := [(0, _)]) ?_ ⟨rfl, trivial⟩
 refine WC.seq (WC.region ?_)
 refine WL.q (oq_assign rfl) rfl rfl rfl ?_
 refine WL.nil (WE.then_normal (WC.sub (fr' := [(0, _)]) ?_ ⟨rfl, trivial⟩))
 refine WC.seq (WC.region ?_)
 refine WL.q (oq_move rfl) rfl rfl rfl ?_
 refine WL.callA0 (parseAddr s hs hh) call28 rfl rfl rfl fun v1_1 N1_1 hR1_1 hN1_1 => ?_
 obtain ⟨a, b, c, d, e, rfl, he⟩ := hR1_1
 refine WL.q (oq_move rfl) rfl rfl rfl ?_
 refine WL.q (oq_extract rfl rfl) rfl rfl rfl ?_
 refine WL.q (oq_extract rfl rfl) rfl rfl rfl ?_
 refine WL.alloc ty65 rfl rfl fun ab hab => ?_
 refine WL.storeS #[_, _, _, _, _] ty65 rfl rfl rfl rfl (Nat.le_of_ble_eq_true rfl) rfl rfl ?_
 refine WL.q (oq_assign rfl) rfl rfl rfl ?_
 refine WL.nil (WE.then_normal (WC.sub (fr' := [(3, _), (4, _)]) ?_ ⟨rfl, rfl, trivial⟩))
 refine WC.seq (WC.region ?_)
 refine WL.q (oq_move rfl) rfl rfl rfl ?_
 refine WL.q (oq_ieql Tryd.underlying39 rfl ((by rcases he with ⟨_, h, _⟩ | ⟨_, h⟩; exact .inl h; exact .inr h))) rfl rfl rfl ?_
 refine WL.q (oq_move rfl) rfl rfl rfl ?_
 refine WL.split 12 rfl (fun s2_2 => ?_) (fun s2_2 => ?_)
 ·
  try simp only [Z1, Z2, Z3, Z4, Z5, Z6, Z7, Z8, Z9, Z0] at s2_2
  refine WL.q (oq_loadS [_, _, _, _, _] agg65 ty65 rfl (.head _) (List.mem_singleton.2 rfl) rfl rfl) rfl rfl rfl ?_
  refine WL.qc (oq_call (zone a b c d) call29 rfl) rfl rfl rfl ?_
  refine WL.q (oq_seql rfl rfl) rfl rfl rfl ?_
  refine WL.q (oq_pick_t rfl rfl) rfl rfl rfl ?_
  refine WL.q (oq_assign rfl) rfl rfl rfl ?_
  refine WL.nil (WE.then_normal (WC.sub (fr' := [(2, _)]) ?_ ⟨rfl, trivial⟩))
  refine WC.ret ?_
  refine WE.lose hab ?_
  refine WE.forget hN1_1 ?_
  refine WE.add0 ?_
  refine WE.endA0 (.inl rfl) (res1 Tryd.results18 rfl) ?_ fresh0
  rcases he with ⟨h4, rfl, _⟩ | ⟨h4, k, u, rfl⟩
  ·first | (rw [h4]; done) | (rw [h4]; rfl) | (exfalso; simp_all [nilI]; done)
  ·first | (rw [h4]; done) | (rw [h4]; rfl) | (exfalso; simp_all [nilI]; done)
 ·
  try simp only [Z1, Z2, Z3, Z4, Z5, Z6, Z7, Z8, Z9, Z0] at s2_2
  refine WL.skip rfl rfl rfl ?_
  refine WL.skip rfl rfl rfl ?_
  refine WL.skip rfl rfl rfl ?_
  refine WL.q (oq_pick_f rfl rfl) rfl rfl rfl ?_
  refine WL.q (oq_assign rfl) rfl rfl rfl ?_
  refine WL.nil (WE.then_normal (WC.sub (fr' := [(2, _)]) ?_ ⟨rfl, trivial⟩))
  refine WC.ret ?_
  refine WE.lose hab ?_
  refine WE.forget hN1_1 ?_
  refine WE.add0 ?_
  refine WE.endA0 (.inl rfl) (res1 Tryd.results18 rfl) ?_ fresh0
  rcases he with ⟨h4, rfl, _⟩ | ⟨h4, k, u, rfl⟩
  ·first | (rw [h4]; done) | (rw [h4]; rfl) | (exfalso; simp_all [nilI]; done)
  ·first | (rw [h4]; done) | (rw [h4]; rfl) | (exfalso; simp_all [nilI]; done)
end M9
end Go.Proofs.YtefaegocllppkaaDoor
/- Addresses as the rules read them. -/
namespace Go.Proofs.YtefaegocllppkaaDoor
open Go Go.RowKit V L0 L1 L2 M0 M1 M2 M3 M4 M5 M6 M7 MQ M8 M9
set_option linter.unusedSimpArgs false
set_option linter.unusedVariables false
set_option maxRecDepth 10000
namespace MA
theorem call14 : Callable Tryd.prog 14 := ⟨_, Tryd.func14, rfl, by kernel_rfl⟩
theorem call15 : Callable Tryd.prog 15 := ⟨_, Tryd.func15, rfl, by kernel_rfl⟩
theorem call16 : Callable Tryd.prog 16 := ⟨_, Tryd.func16, rfl, by kernel_rfl⟩
theorem call17 : Callable Tryd.prog 17 := ⟨_, Tryd.func17, rfl, by kernel_rfl⟩
theorem call18 : Callable Tryd.prog 18 := ⟨_, Tryd.func18, rfl, by kernel_rfl⟩
theorem call19 : Callable Tryd.prog 19 := ⟨_, Tryd.func19, rfl, by kernel_rfl⟩
theorem flat9 : Flat Tryd.prog 9 := ⟨_, Tryd.underlying9, by simp⟩
theorem ty9 : Ty Tryd.prog 9 (S []) 1 16 := ty_of (by kernel_rfl)
theorem ty36 : Ty Tryd.prog 36 (.agg #[(S []), (S []), (S []), (S []), (.bool false)]) 5 72 := ty_of (by kernel_rfl)
theorem str36 : Str Tryd.prog 36 #[(0, 1), (1, 1), (2, 1), (3, 1), (4, 1)] := ⟨_, Tryd.underlying36, fun w => by kernel_rfl⟩
theorem fld44_0 : Fld Tryd.prog 44 0 0 9 := fld_of Tryd.underlying44 rfl rfl rfl ty9 (by decide)
theorem fld44_3 : Fld Tryd.prog 44 3 3 9 := fld_of Tryd.underlying44 rfl rfl rfl ty9 (by decide)
theorem fld44_4 : Fld Tryd.prog 44 4 4 9 := fld_of Tryd.underlying44 rfl rfl rfl ty9 (by decide)
theorem fld44_6 : Fld Tryd.prog 44 6 6 9 := fld_of Tryd.underlying44 rfl rfl rfl ty9 (by decide)
def Web (sc : List UInt8) : Prop := sc = [104, 116, 116, 112] ∨ sc = [104, 116, 116, 112, 115]
theorem ini_y {pa : List UInt8} (h : pa.take ([47] : List UInt8).length = [47]) : pa = ini pa := by
 cases pa with
 | nil => simp at h
 | cons c r =>
  simp at h
  unfold ini
  rw [if_neg]
  rintro (e | e)
  ·cases e
  ·apply e; rw [h]; rfl
theorem ini_n {pa : List UInt8} (h : ¬ pa.take ([47] : List UInt8).length = [47]) : [47] ++ pa = ini pa := by
 unfold ini
 rw [if_pos]; rfl
 cases pa with
 | nil => exact .inl rfl
 | cons c r =>
  right
  intro e
  have e2 : ((c.toNat : Nat) : Int) = 47 := e
  apply h
  have : c = 47 := UInt8.toNat_inj.1 (by show c.toNat = 47; omega)
  rw [this]; rfl
theorem last_at {d : List UInt8} (h : 1 ≤ d.length) : (d.drop (d.length - ([47] : List UInt8).length) = [47]) ↔ byteAt d ((d.length : Int) - 1) = 47 := by
 have hl : d.length - 1 < d.length := by omega
 rw [show d.length - ([47] : List UInt8).length = d.length - 1 from rfl, List.drop_eq_getElem_cons hl, show d.length - 1 + 1 = d.length by omega, List.drop_length, show ((d.length : Int) - 1) = ((d.length - 1 : Nat) : Int) by omega, byteAt_get d _ hl]
 constructor
 ·intro e
  have : d[d.length - 1] = 47 := by simpa using e
  rw [this]; rfl
 ·intro e
  have : d[d.length - 1] = 47 := UInt8.toNat_inj.1 (by show d[d.length - 1].toNat = 47; omega)
  rw [this]
theorem fin_yes {pa : List UInt8} (h : ([47] : List UInt8).length ≤ (ini pa).length ∧ (ini pa).drop ((ini pa).length - ([47] : List UInt8).length) = [47]) : ini pa = pth pa :=
 fin_n rfl rfl ((last_at (ini_len pa).1).1 h.2)
theorem fin_no {pa : List UInt8} (h : ¬ (([47] : List UInt8).length ≤ (ini pa).length ∧ (ini pa).drop ((ini pa).length - ([47] : List UInt8).length) = [47])) : ini pa ++ [47] = pth pa :=
 fin_y rfl rfl (fun e => h ⟨(ini_len pa).1, (last_at (ini_len pa).1).2 e⟩)
set_option maxHeartbeats 2000000 in
theorem parseURL (G : Hp) (hG : Tb G) {sc au pa h : List UInt8} (hu : UOk sc au pa [] h) (hal : (UT sc au pa []).length ≤ 100000) (hsc : Web sc) : FnA Tryd.prog 12 [S (UT sc au pa [])] G (fun v N => ∃ p, v = Pt p 0 ∧ N = [(p, .cells #[S sc, S au, S pa, S (pth pa), .bool (four h)] 36 (0, 0))]) := by
 have hlen := hal
 simp only [UT, List.length_append, List.length_cons] at hlen
 have hul := hu.len
 have hil := ini_len pa
 refine FnA.enter (n := 65) Tryd.func12 rfl rfl fun w0 => ?_
 refine WC.sub (fr' := [(0, _)]) ?_ ⟨rfl, trivial⟩
 refine WC.seq (WC.region ?_)
 refine WL.q (oq_assign rfl) rfl rfl rfl ?_
 refine WL.nil (WE.then_normal (WC.sub (fr' := [(0, _)]) ?_ ⟨rfl, trivial⟩))
 refine WC.seq (WC.region ?_)
 refine WL.q (oq_move rfl) rfl rfl rfl ?_
 refine WL.callA (parseU G hG hu hal) call14 rfl rfl rfl fun v1_1 N1_1 hR1_1 hN1_1 => ?_
 obtain ⟨p, rp, rfl, rfl⟩ := hR1_1
 refine WL.q (oq_move rfl) rfl rfl rfl ?_
 refine WL.q (oq_extract rfl rfl) rfl rfl rfl ?_
 refine WL.q (oq_extract rfl rfl) rfl rfl rfl ?_
 refine WL.q (oq_assign rfl) rfl rfl rfl ?_
 refine WL.q (oq_assign rfl) rfl rfl rfl ?_
 refine WL.nil (WE.then_normal (WC.sub (fr' := [(3, _), (4, _)]) ?_ ⟨rfl, rfl, trivial⟩))
 refine WC.seq (WC.seq (WC.region ?_))
 refine WL.q (oq_move rfl) rfl rfl rfl ?_
 refine WL.q (oq_ineq Tryd.underlying39 rfl (.inl rfl)) rfl rfl rfl ?_
 refine WL.nil (WE.then_normal (WC.sub (fr' := [(3, _), (13, _)]) ?_ ⟨rfl, rfl, trivial⟩))
 refine WC.cond rfl (fun q2 => ?_) (fun q2 => ?_)
 ·
  try simp only [Z1, Z2, Z3, Z4, Z5, Z6, Z7, Z8, Z9, Z0] at q2
  refine WC.seq ?_
  first | contradiction | omega | (exfalso; simp_all; done)
 ·
  try simp only [Z1, Z2, Z3, Z4, Z5, Z6, Z7, Z8, Z9, Z0] at q2
  refine WC.skip (WE.then_normal (WC.sub (fr' := [(3, _)]) ?_ ⟨rfl, trivial⟩))
  refine WC.seq (WC.seq (WC.region ?_))
  refine WL.q (oq_move rfl) rfl rfl rfl ?_
  refine WL.q (oq_nilCheck rfl) rfl rfl rfl ?_
  refine WL.q (oq_fieldAddr fld44_6 rfl) rfl rfl rfl ?_
  refine WL.q (oq_load flat9 rfl (.head _) (List.mem_singleton.2 rfl) rfl) rfl rfl rfl ?_
  refine WL.q (oq_sneq rfl rfl) rfl rfl rfl ?_
  refine WL.nil (WE.then_normal (WC.sub (fr' := [(3, _), (18, _)]) ?_ ⟨rfl, rfl, trivial⟩))
  refine WC.cond rfl (fun q4 => ?_) (fun q4 => ?_)
  ·
   try simp only [Z1, Z2, Z3, Z4, Z5, Z6, Z7, Z8, Z9, Z0] at q4
   refine WC.seq ?_
   exfalso; simp_all
  ·
   try simp only [Z1, Z2, Z3, Z4, Z5, Z6, Z7, Z8, Z9, Z0] at q4
   refine WC.skip (WE.then_normal (WC.sub (fr' := [(3, _)]) ?_ ⟨rfl, trivial⟩))
   refine WC.seq (WC.seq (WC.region ?_))
   refine WL.q (oq_move rfl) rfl rfl rfl ?_
   refine WL.q (oq_nilCheck rfl) rfl rfl rfl ?_
   refine WL.q (oq_fieldAddr fld44_0 rfl) rfl rfl rfl ?_
   refine WL.q (oq_load flat9 rfl (.head _) (List.mem_singleton.2 rfl) rfl) rfl rfl rfl ?_
   refine WL.q (oq_sneq rfl rfl) rfl rfl rfl ?_
   refine WL.q (oq_move rfl) rfl rfl rfl ?_
   refine WL.split 24 rfl (fun s6_5 => ?_) (fun s6_5 => ?_)
   ·
    try simp only [Z1, Z2, Z3, Z4, Z5, Z6, Z7, Z8, Z9, Z0] at s6_5
    refine WL.q (oq_move rfl) rfl rfl rfl ?_
    refine WL.q (oq_nilCheck rfl) rfl rfl rfl ?_
    refine WL.q (oq_fieldAddr fld44_0 rfl) rfl rfl rfl ?_
    refine WL.q (oq_load flat9 rfl (.head _) (List.mem_singleton.2 rfl) rfl) rfl rfl rfl ?_
    refine WL.q (oq_sneq rfl rfl) rfl rfl rfl ?_
    refine WL.q (oq_pick_t rfl rfl) rfl rfl rfl ?_
    refine WL.nil (WE.then_normal (WC.sub (fr' := [(3, _), (30, _)]) ?_ ⟨rfl, rfl, trivial⟩))
    refine WC.cond rfl (fun q6 => ?_) (fun q6 => ?_)
    ·
     try simp only [Z1, Z2, Z3, Z4, Z5, Z6, Z7, Z8, Z9, Z0] at q6
     refine WC.seq ?_
     exfalso; rcases hsc with h | h <;> simp_all
    ·
     try simp only [Z1, Z2, Z3, Z4, Z5, Z6, Z7, Z8, Z9, Z0] at q6
     refine WC.skip (WE.then_normal (WC.sub (fr' := [(3, _)]) ?_ ⟨rfl, trivial⟩))
     refine WC.seq (WC.region ?_)
     refine WL.q (oq_move rfl) rfl rfl rfl ?_
     refine WL.q (oq_nilCheck rfl) rfl rfl rfl ?_
     refine WL.q (oq_fieldAddr fld44_4 rfl) rfl rfl rfl ?_
     refine WL.q (oq_load flat9 rfl (.head _) (List.mem_singleton.2 rfl) rfl) rfl rfl rfl ?_
     refine WL.q (oq_assign rfl) rfl rfl rfl ?_
     refine WL.nil (WE.then_normal (WC.sub (fr' := [(3, _), (5, _)]) ?_ ⟨rfl, rfl, trivial⟩))
     refine WC.cut (ι := Unit) (fun _ => [(3, Pt p 0), (5, S (ini pa))]) (fun _ => [UC p sc au pa ([] : List UInt8).tail rp, G]) (fun _ => True) ?_ ?_
     ·
      refine WC.seq (WC.region ?_)
      refine WL.q (oq_move rfl) rfl rfl rfl ?_
      refine WL.qc (oq_call (hasPre pa [47] (by omega) (by decide)) call15 rfl) rfl rfl rfl ?_
      refine WL.q (oq_not rfl) rfl rfl rfl ?_
      refine WL.nil (WE.then_normal (WC.sub (fr' := [(3, _), (5, _), (37, _)]) ?_ ⟨rfl, rfl, rfl, trivial⟩))
      refine WC.cond rfl (fun q9 => ?_) (fun q9 => ?_)
      ·
       try simp only [Z1, Z2, Z3, Z4, Z5, Z6, Z7, Z8, Z9, Z0] at q9
       refine WC.region ?_
       refine WL.q (oq_move rfl) rfl rfl rfl ?_
       refine WL.q (oq_concat rfl rfl (by (first | omega | (simp only [List.length_cons, List.length_nil, List.length_append, List.length_drop, List.length_take]; omega)))) rfl rfl rfl ?_
       refine WL.q (oq_assign rfl) rfl rfl rfl ?_
       refine WL.nil ?_
       refine WE.meet () ?_ ⟨rfl, (gtv rfl (by first | exact congrArg S (ini_y (by simpa using q9)) | exact congrArg S (ini_n (by simpa using q9)))), trivial⟩ (List.Perm.refl _)
       try dsimp only
       all_goals trivial
      ·
       try simp only [Z1, Z2, Z3, Z4, Z5, Z6, Z7, Z8, Z9, Z0] at q9
       refine WC.skip ?_
       refine WE.meet () ?_ ⟨rfl, (gtv rfl (by first | exact congrArg S (ini_y (by simpa using q9)) | exact congrArg S (ini_n (by simpa using q9)))), trivial⟩ (List.Perm.refl _)
       try dsimp only
       all_goals trivial
     ·rintro _ hp
      try dsimp only at hp
      show WC _ _ _ _ _ _ ([(3, Pt p 0), (5, S (ini pa))]) ([UC p sc au pa ([] : List UInt8).tail rp, G])
      refine WC.cut (ι := Unit) (fun _ => [(3, Pt p 0), (5, S (pth pa))]) (fun _ => [UC p sc au pa ([] : List UInt8).tail rp, G]) (fun _ => True) ?_ ?_
      ·
       refine WC.seq (WC.region ?_)
       refine WL.q (oq_move rfl) rfl rfl rfl ?_
       refine WL.qc (oq_call (hasSuf (ini pa) [47] (by omega) (by decide)) call16 rfl) rfl rfl rfl ?_
       refine WL.q (oq_not rfl) rfl rfl rfl ?_
       refine WL.nil (WE.then_normal (WC.sub (fr' := [(3, _), (5, _), (42, _)]) ?_ ⟨rfl, rfl, rfl, trivial⟩))
       refine WC.cond rfl (fun q11 => ?_) (fun q11 => ?_)
       ·
        try simp only [Z1, Z2, Z3, Z4, Z5, Z6, Z7, Z8, Z9, Z0] at q11
        refine WC.region ?_
        refine WL.q (oq_move rfl) rfl rfl rfl ?_
        refine WL.q (oq_concat rfl rfl (by (first | omega | (simp only [List.length_cons, List.length_nil, List.length_append, List.length_drop, List.length_take]; omega)))) rfl rfl rfl ?_
        refine WL.q (oq_assign rfl) rfl rfl rfl ?_
        refine WL.nil ?_
        refine WE.meet () ?_ ⟨rfl, (gtv rfl (by first | exact congrArg S (fin_yes (by simpa using q11)) | exact congrArg S (fin_no (by simpa using q11)))), trivial⟩ (List.Perm.refl _)
        try dsimp only
        all_goals trivial
       ·
        try simp only [Z1, Z2, Z3, Z4, Z5, Z6, Z7, Z8, Z9, Z0] at q11
        refine WC.skip ?_
        refine WE.meet () ?_ ⟨rfl, (gtv rfl (by first | exact congrArg S (fin_yes (by simpa using q11)) | exact congrArg S (fin_no (by simpa using q11)))), trivial⟩ (List.Perm.refl _)
        try dsimp only
        all_goals trivial
      ·rintro _ hp
       try dsimp only at hp
       show WC _ _ _ _ _ _ ([(3, Pt p 0), (5, S (pth pa))]) ([UC p sc au pa ([] : List UInt8).tail rp, G])
       refine WC.seq (WC.region ?_)
       refine WL.q (oq_move rfl) rfl rfl rfl ?_
       refine WL.q (oq_nilCheck rfl) rfl rfl rfl ?_
       refine WL.q (oq_fieldAddr fld44_3 rfl) rfl rfl rfl ?_
       refine WL.q (oq_load flat9 rfl (.head _) (List.mem_singleton.2 rfl) rfl) rfl rfl rfl ?_
       refine WL.callA0 (replAll au hu.no37 (by omega)) call17 rfl rfl rfl fun v13_4 N13_4 hR13_4 hN13_4 => ?_
       subst hR13_4
       refine WL.q (oq_assign rfl) rfl rfl rfl ?_
       refine WL.nil (WE.then_normal (WC.sub (fr' := [(3, _), (5, _), (6, _)]) ?_ ⟨rfl, rfl, rfl, trivial⟩))
       refine WC.seq ?_
       refine WC.held (UC p sc au pa ([] : List UInt8).tail rp) (by kernel_rfl) ?_
       refine WH.q 0 rfl (.tail _ (.head _)) (fun w0 => oq_move rfl) rfl rfl rfl ?_
       refine WH.q 1 rfl (.tail _ (.head _)) (fun w0 => oq_nilCheck rfl) rfl rfl rfl ?_
       refine WH.q 2 rfl (.tail _ (.head _)) (fun w0 => oq_fieldAddr fld44_0 rfl) rfl rfl rfl ?_
       refine WH.q 3 rfl (.tail _ (.head _)) (fun w0 => oq_load flat9 rfl (.head _) (List.mem_singleton.2 rfl) rfl) rfl rfl rfl ?_
       refine WH.q 4 rfl (.tail _ (.head _)) (fun w0 => oq_move rfl) rfl rfl rfl ?_
       refine WH.q 5 rfl (.tail _ (.head _)) (fun w0 => oq_move rfl) rfl rfl rfl ?_
       refine WH.q 6 rfl (.tail _ (.head _)) (fun w0 => oq_nilCheck rfl) rfl rfl rfl ?_
       refine WH.q 7 rfl (.tail _ (.head _)) (fun w0 => oq_fieldAddr fld44_4 rfl) rfl rfl rfl ?_
       refine WH.q 8 rfl (.tail _ (.head _)) (fun w0 => oq_load flat9 rfl (.head _) (List.mem_singleton.2 rfl) rfl) rfl rfl rfl ?_
       refine WH.q 9 rfl (.tail _ (.head _)) (fun w0 => oq_move rfl) rfl rfl rfl ?_
       refine WH.q 10 rfl (.tail _ (.head _)) (fun w0 => oq_move rfl) rfl rfl rfl ?_
       refine WH.step (i := 11) (by kernel_rfl) rfl ?_
       refine WL.qc (oq_callRm (hostNoZone p _ rp hu hal) (.tail _ (.head _)) call19 rfl) rfl rfl rfl ?_
       refine WL.nil ?_
       refine WE.toH (.tail _ (.head _)) ?_
       refine WH.step (i := 12) (by kernel_rfl) rfl ?_
       refine WL.callA0 (isIP h (by have := h_le hu; omega) (h_mem hu)) call18 rfl rfl rfl fun v14_12 N14_12 hR14_12 hN14_12 => ?_
       subst hR14_12
       refine WL.nil ?_
       refine WE.toH (.tail _ (.tail _ (.head _))) ?_
       refine WH.q 13 rfl (.tail _ (.tail _ (.head _))) (fun w0 => oq_build #[_, _, _, _, _] str36 ty36 rfl rfl) rfl rfl rfl ?_
       refine WH.step (i := 14) (by kernel_rfl) rfl ?_
       refine WL.box rfl rfl rfl fun pb hpb => ?_
       refine WL.nil ?_
       refine WE.toH (.tail _ (.tail _ (.tail _ (.head _)))) ?_
       refine WH.q 15 rfl (.tail _ (.tail _ (.tail _ (.head _)))) (fun w0 => oq_assign rfl) rfl rfl rfl ?_
       refine WH.done (by kernel_rfl) ?_
       refine WE.then_normal (WC.sub (fr' := [(2, _)]) ?_ ⟨rfl, trivial⟩)
       refine WC.ret ?_
       refine WE.f1 ?_
       refine WE.forget hN14_12 ?_
       refine WE.f1 ?_
       refine WE.forget hN13_4 ?_
       refine WE.f1 ?_
       refine WE.forget hN1_1 ?_
       refine WE.endA (.inl rfl) (res1 Tryd.results12 rfl) ?_ (fresh1 hpb)
       exact ⟨_, rfl, rfl⟩
   ·
    try simp only [Z1, Z2, Z3, Z4, Z5, Z6, Z7, Z8, Z9, Z0] at s6_5
    refine WL.skip rfl rfl rfl ?_
    refine WL.skip rfl rfl rfl ?_
    refine WL.skip rfl rfl rfl ?_
    refine WL.skip rfl rfl rfl ?_
    refine WL.skip rfl rfl rfl ?_
    refine WL.q (oq_pick_f rfl rfl) rfl rfl rfl ?_
    refine WL.nil (WE.then_normal (WC.sub (fr' := [(3, _), (30, _)]) ?_ ⟨rfl, rfl, trivial⟩))
    refine WC.cond_f rfl ?_
    refine WC.skip (WE.then_normal (WC.sub (fr' := [(3, _)]) ?_ ⟨rfl, trivial⟩))
    refine WC.seq (WC.region ?_)
    refine WL.q (oq_move rfl) rfl rfl rfl ?_
    refine WL.q (oq_nilCheck rfl) rfl rfl rfl ?_
    refine WL.q (oq_fieldAddr fld44_4 rfl) rfl rfl rfl ?_
    refine WL.q (oq_load flat9 rfl (.head _) (List.mem_singleton.2 rfl) rfl) rfl rfl rfl ?_
    refine WL.q (oq_assign rfl) rfl rfl rfl ?_
    refine WL.nil (WE.then_normal (WC.sub (fr' := [(3, _), (5, _)]) ?_ ⟨rfl, rfl, trivial⟩))
    refine WC.cut (ι := Unit) (fun _ => [(3, Pt p 0), (5, S (ini pa))]) (fun _ => [UC p sc au pa ([] : List UInt8).tail rp, G]) (fun _ => True) ?_ ?_
    ·
     refine WC.seq (WC.region ?_)
     refine WL.q (oq_move rfl) rfl rfl rfl ?_
     refine WL.qc (oq_call (hasPre pa [47] (by omega) (by decide)) call15 rfl) rfl rfl rfl ?_
     refine WL.q (oq_not rfl) rfl rfl rfl ?_
     refine WL.nil (WE.then_normal (WC.sub (fr' := [(3, _), (5, _), (37, _)]) ?_ ⟨rfl, rfl, rfl, trivial⟩))
     refine WC.cond rfl (fun q9 => ?_) (fun q9 => ?_)
     ·
      try simp only [Z1, Z2, Z3, Z4, Z5, Z6, Z7, Z8, Z9, Z0] at q9
      refine WC.region ?_
      refine WL.q (oq_move rfl) rfl rfl rfl ?_
      refine WL.q (oq_concat rfl rfl (by (first | omega | (simp only [List.length_cons, List.length_nil, List.length_append, List.length_drop, List.length_take]; omega)))) rfl rfl rfl ?_
      refine WL.q (oq_assign rfl) rfl rfl rfl ?_
      refine WL.nil ?_
      refine WE.meet () ?_ ⟨rfl, (gtv rfl (by first | exact congrArg S (ini_y (by simpa using q9)) | exact congrArg S (ini_n (by simpa using q9)))), trivial⟩ (List.Perm.refl _)
      try dsimp only
      all_goals trivial
     ·
      try simp only [Z1, Z2, Z3, Z4, Z5, Z6, Z7, Z8, Z9, Z0] at q9
      refine WC.skip ?_
      refine WE.meet () ?_ ⟨rfl, (gtv rfl (by first | exact congrArg S (ini_y (by simpa using q9)) | exact congrArg S (ini_n (by simpa using q9)))), trivial⟩ (List.Perm.refl _)
      try dsimp only
      all_goals trivial
    ·rintro _ hp
     try dsimp only at hp
     show WC _ _ _ _ _ _ ([(3, Pt p 0), (5, S (ini pa))]) ([UC p sc au pa ([] : List UInt8).tail rp, G])
     refine WC.cut (ι := Unit) (fun _ => [(3, Pt p 0), (5, S (pth pa))]) (fun _ => [UC p sc au pa ([] : List UInt8).tail rp, G]) (fun _ => True) ?_ ?_
     ·
      refine WC.seq (WC.region ?_)
      refine WL.q (oq_move rfl) rfl rfl rfl ?_
      refine WL.qc (oq_call (hasSuf (ini pa) [47] (by omega) (by decide)) call16 rfl) rfl rfl rfl ?_
      refine WL.q (oq_not rfl) rfl rfl rfl ?_
      refine WL.nil (WE.then_normal (WC.sub (fr' := [(3, _), (5, _), (42, _)]) ?_ ⟨rfl, rfl, rfl, trivial⟩))
      refine WC.cond rfl (fun q11 => ?_) (fun q11 => ?_)
      ·
       try simp only [Z1, Z2, Z3, Z4, Z5, Z6, Z7, Z8, Z9, Z0] at q11
       refine WC.region ?_
       refine WL.q (oq_move rfl) rfl rfl rfl ?_
       refine WL.q (oq_concat rfl rfl (by (first | omega | (simp only [List.length_cons, List.length_nil, List.length_append, List.length_drop, List.length_take]; omega)))) rfl rfl rfl ?_
       refine WL.q (oq_assign rfl) rfl rfl rfl ?_
       refine WL.nil ?_
       refine WE.meet () ?_ ⟨rfl, (gtv rfl (by first | exact congrArg S (fin_yes (by simpa using q11)) | exact congrArg S (fin_no (by simpa using q11)))), trivial⟩ (List.Perm.refl _)
       try dsimp only
       all_goals trivial
      ·
       try simp only [Z1, Z2, Z3, Z4, Z5, Z6, Z7, Z8, Z9, Z0] at q11
       refine WC.skip ?_
       refine WE.meet () ?_ ⟨rfl, (gtv rfl (by first | exact congrArg S (fin_yes (by simpa using q11)) | exact congrArg S (fin_no (by simpa using q11)))), trivial⟩ (List.Perm.refl _)
       try dsimp only
       all_goals trivial
     ·rintro _ hp
      try dsimp only at hp
      show WC _ _ _ _ _ _ ([(3, Pt p 0), (5, S (pth pa))]) ([UC p sc au pa ([] : List UInt8).tail rp, G])
      refine WC.seq (WC.region ?_)
      refine WL.q (oq_move rfl) rfl rfl rfl ?_
      refine WL.q (oq_nilCheck rfl) rfl rfl rfl ?_
      refine WL.q (oq_fieldAddr fld44_3 rfl) rfl rfl rfl ?_
      refine WL.q (oq_load flat9 rfl (.head _) (List.mem_singleton.2 rfl) rfl) rfl rfl rfl ?_
      refine WL.callA0 (replAll au hu.no37 (by omega)) call17 rfl rfl rfl fun v13_4 N13_4 hR13_4 hN13_4 => ?_
      subst hR13_4
      refine WL.q (oq_assign rfl) rfl rfl rfl ?_
      refine WL.nil (WE.then_normal (WC.sub (fr' := [(3, _), (5, _), (6, _)]) ?_ ⟨rfl, rfl, rfl, trivial⟩))
      refine WC.seq ?_
      refine WC.held (UC p sc au pa ([] : List UInt8).tail rp) (by kernel_rfl) ?_
      refine WH.q 0 rfl (.tail _ (.head _)) (fun w0 => oq_move rfl) rfl rfl rfl ?_
      refine WH.q 1 rfl (.tail _ (.head _)) (fun w0 => oq_nilCheck rfl) rfl rfl rfl ?_
      refine WH.q 2 rfl (.tail _ (.head _)) (fun w0 => oq_fieldAddr fld44_0 rfl) rfl rfl rfl ?_
      refine WH.q 3 rfl (.tail _ (.head _)) (fun w0 => oq_load flat9 rfl (.head _) (List.mem_singleton.2 rfl) rfl) rfl rfl rfl ?_
      refine WH.q 4 rfl (.tail _ (.head _)) (fun w0 => oq_move rfl) rfl rfl rfl ?_
      refine WH.q 5 rfl (.tail _ (.head _)) (fun w0 => oq_move rfl) rfl rfl rfl ?_
      refine WH.q 6 rfl (.tail _ (.head _)) (fun w0 => oq_nilCheck rfl) rfl rfl rfl ?_
      refine WH.q 7 rfl (.tail _ (.head _)) (fun w0 => oq_fieldAddr fld44_4 rfl) rfl rfl rfl ?_
      refine WH.q 8 rfl (.tail _ (.head _)) (fun w0 => oq_load flat9 rfl (.head _) (List.mem_singleton.2 rfl) rfl) rfl rfl rfl ?_
      refine WH.q 9 rfl (.tail _ (.head _)) (fun w0 => oq_move rfl) rfl rfl rfl ?_
      refine WH.q 10 rfl (.tail _ (.head _)) (fun w0 => oq_move rfl) rfl rfl rfl ?_
      refine WH.step (i := 11) (by kernel_rfl) rfl ?_
      refine WL.qc (oq_callRm (hostNoZone p _ rp hu hal) (.tail _ (.head _)) call19 rfl) rfl rfl rfl ?_
      refine WL.nil ?_
      refine WE.toH (.tail _ (.head _)) ?_
      refine WH.step (i := 12) (by kernel_rfl) rfl ?_
      refine WL.callA0 (isIP h (by have := h_le hu; omega) (h_mem hu)) call18 rfl rfl rfl fun v14_12 N14_12 hR14_12 hN14_12 => ?_
      subst hR14_12
      refine WL.nil ?_
      refine WE.toH (.tail _ (.tail _ (.head _))) ?_
      refine WH.q 13 rfl (.tail _ (.tail _ (.head _))) (fun w0 => oq_build #[_, _, _, _, _] str36 ty36 rfl rfl) rfl rfl rfl ?_
      refine WH.step (i := 14) (by kernel_rfl) rfl ?_
      refine WL.box rfl rfl rfl fun pb hpb => ?_
      refine WL.nil ?_
      refine WE.toH (.tail _ (.tail _ (.tail _ (.head _)))) ?_
      refine WH.q 15 rfl (.tail _ (.tail _ (.tail _ (.head _)))) (fun w0 => oq_assign rfl) rfl rfl rfl ?_
      refine WH.done (by kernel_rfl) ?_
      refine WE.then_normal (WC.sub (fr' := [(2, _)]) ?_ ⟨rfl, trivial⟩)
      refine WC.ret ?_
      refine WE.f1 ?_
      refine WE.forget hN14_12 ?_
      refine WE.f1 ?_
      refine WE.forget hN13_4 ?_
      refine WE.f1 ?_
      refine WE.forget hN1_1 ?_
      refine WE.endA (.inl rfl) (res1 Tryd.results12 rfl) ?_ (fresh1 hpb)
      exact ⟨_, rfl, rfl⟩
end MA
end Go.Proofs.YtefaegocllppkaaDoor
/- Addresses as they are read, and equal ones. -/
namespace Go.Proofs.YtefaegocllppkaaDoor
open Go Go.RowKit V L0 L1 L2 M0 M1 M2 M3 M4 M5 M6 M7 MQ M8 M9 MA
set_option linter.unusedSimpArgs false
set_option linter.unusedVariables false
set_option maxRecDepth 10000
namespace MB
theorem call12 : Callable Tryd.prog 12 := ⟨_, Tryd.func12, rfl, by kernel_rfl⟩
theorem flat4 : Flat Tryd.prog 4 := ⟨_, Tryd.underlying4, by simp⟩
theorem flat9 : Flat Tryd.prog 9 := ⟨_, Tryd.underlying9, by simp⟩
theorem ty4 : Ty Tryd.prog 4 (.bool false) 1 1 := ty_of (by kernel_rfl)
theorem ty9 : Ty Tryd.prog 9 (S []) 1 16 := ty_of (by kernel_rfl)
theorem ty23 : Ty Tryd.prog 23 (.agg #[(S []), (S []), (S []), (S []), (.bool false)]) 5 72 := ty_of (by kernel_rfl)
theorem agg23 : Agg Tryd.prog 23 := agg_of Tryd.underlying23
theorem str23 : Str Tryd.prog 23 #[(0, 1), (1, 1), (2, 1), (3, 1), (4, 1)] := ⟨_, Tryd.underlying23, fun w => by kernel_rfl⟩
theorem fld36_0 : Fld Tryd.prog 36 0 0 9 := fld_of Tryd.underlying36 rfl rfl rfl ty9 (by decide)
theorem fld36_1 : Fld Tryd.prog 36 1 1 9 := fld_of Tryd.underlying36 rfl rfl rfl ty9 (by decide)
theorem fld36_2 : Fld Tryd.prog 36 2 2 9 := fld_of Tryd.underlying36 rfl rfl rfl ty9 (by decide)
theorem fld36_3 : Fld Tryd.prog 36 3 3 9 := fld_of Tryd.underlying36 rfl rfl rfl ty9 (by decide)
theorem fld36_4 : Fld Tryd.prog 36 4 4 4 := fld_of Tryd.underlying36 rfl rfl rfl ty4 (by decide)
theorem good_uok {s sc au pa h : List UInt8} (hg : M1.Good s sc au pa h) : UOk sc au pa [] h ∧ s = UT sc au pa [] ∧ Web sc := by
 obtain ⟨h1, h2, h3, h4, h5⟩ := hg
 refine ⟨⟨?_, h3, h4, h5, .inl rfl⟩, by rw [h2]; simp [UT], h1⟩
 rcases h1 with rfl | rfl
 ·exact ⟨by simp, by decide⟩
 ·exact ⟨by simp, by decide⟩
theorem eqS (d : Nat) (w : World) (a : List UInt8) : (Op.equalIn (d + 1) 9 (S a) (S a)).run Tryd.prog w = .ok true w := by
 have e : true = decide (a = a) := by simp
 rw [e, ← eq_str]
 exact run_equalIn_string w d 9 _ _ Tryd.underlying9
theorem eqE (d0 : Nat) (w : World) (a b c d : List UInt8) (e : Bool) : (Op.equalIn (d0 + 2) 23 (.agg #[S a, S b, S c, S d, .bool e]) (.agg #[S a, S b, S c, S d, .bool e])).run Tryd.prog w = .ok true w := by
 have hS : Tryd.prog.underlying 23 = some (.struct (Tryd.prog.fieldsOf 23)) := by kernel_rfl
 have hp : Tryd.prog.stoodInHeld 23 = false := by kernel_rfl
 rw [show d0 + 2 = d0 + 1 + 1 from rfl, run_equalIn_struct w (d0 + 1) _ _ _ hS hp]
 unfold Program.fieldsOf
 rw [Tryd.underlying23]
 refine eqF_cons (r := true) (s := true) (by decide) (part_flat fl9 rfl) (part_flat fl9 rfl) (eqS d0 w a) ?_
 refine eqF_cons (r := true) (s := true) (by decide) (part_flat fl9 rfl) (part_flat fl9 rfl) (eqS d0 w b) ?_
 refine eqF_cons (r := true) (s := true) (by decide) (part_flat fl9 rfl) (part_flat fl9 rfl) (eqS d0 w c) ?_
 refine eqF_cons (r := true) (s := true) (by decide) (part_flat fl9 rfl) (part_flat fl9 rfl) (eqS d0 w d) ?_
 refine eqF_cons (r := true) (s := true) (by decide) (part_flat fl4 rfl) (part_flat fl4 rfl) ?_ eqF_nil
 have := run_equalIn_bool w (d0 + 1) 4 e e Tryd.underlying4
 rwa [beq_self_eq_true] at this
section
variable {n : Nat} {w0 : World} {ds : List Deferred} {fr : Fr} {H : List Hp} {dst : Option Tmp} {ty t' : TypeId} {pos : String} {aft : Array Edge} {g : Option (Nat × Bool)} {x y : Operand}
theorem oq_eqE {a b c d : List UInt8} {e : Bool} (hx : ev fr x = some (.agg #[S a, S b, S c, S d, .bool e])) (hy : ev fr y = some (.agg #[S a, S b, S c, S d, .bool e])) : OV Tryd.prog n w0 ⟨dst, .binOp .eql 23 x y t', ty, pos, aft, g⟩ (.bool true) ds fr H :=
 oq_of_run fun k w hf _ => by
  have hg : Tryd.prog.eqGuardType Tryd.prog.depth 23 = false := by kernel_rfl
  simp only [execOp, hf.eval hx, hf.eval hy, Sem.run_bind, run_eqGuard_agg w .eql 23 x y _ _ hg, Result.andThen_ok, run_eql_struct, eqE 9998 w a b c d e, Sem.run_pure]
end
set_option maxHeartbeats 2000000 in
theorem eParse (G : Hp) (hG : Tb G) {sc au pa h : List UInt8} (hu : UOk sc au pa [] h) (hal : (UT sc au pa []).length ≤ 100000) (hsc : Web sc) : FnA Tryd.prog 7 [S (UT sc au pa [])] G (fun v N => v = .tuple #[.agg #[S sc, S au, S pa, S (pth pa), .bool (four h)], .bool true]) := by
 refine FnA.enter (n := 31) Tryd.func7 rfl rfl fun w0 => ?_
 refine WC.sub (fr' := [(0, _)]) ?_ ⟨rfl, trivial⟩
 refine WC.seq (WC.region ?_)
 refine WL.alloc ty23 rfl rfl fun r2 hr2 => ?_
 refine WL.q (oq_assign rfl) rfl rfl rfl ?_
 refine WL.nil (WE.then_normal (WC.sub (fr' := [(0, _), (2, _)]) ?_ ⟨rfl, rfl, trivial⟩))
 refine WC.seq (WC.region ?_)
 refine WL.q (oq_move rfl) rfl rfl rfl ?_
 refine WL.f1 ?_
 refine WL.callA (parseURL G hG hu hal hsc) call12 rfl rfl rfl fun v1_1 N1_1 hR1_1 hN1_1 => ?_
 obtain ⟨p, rfl, rfl⟩ := hR1_1
 refine WL.q (oq_assign rfl) rfl rfl rfl ?_
 refine WL.nil (WE.then_normal (WC.sub (fr' := [(2, _), (4, _)]) ?_ ⟨rfl, rfl, trivial⟩))
 refine WC.seq (WC.seq (WC.region ?_))
 refine WL.q (oq_move rfl) rfl rfl rfl ?_
 refine WL.q (oq_peql Tryd.underlying33 rfl rfl) rfl rfl rfl ?_
 refine WL.nil (WE.then_normal (WC.sub (fr' := [(2, _), (4, _), (8, _)]) ?_ ⟨rfl, rfl, rfl, trivial⟩))
 refine WC.cond rfl (fun q2 => ?_) (fun q2 => ?_)
 ·
  try simp only [Z1, Z2, Z3, Z4, Z5, Z6, Z7, Z8, Z9, Z0] at q2
  first | contradiction | (exfalso; omega) | (exfalso; simp_all; done)
 ·
  try simp only [Z1, Z2, Z3, Z4, Z5, Z6, Z7, Z8, Z9, Z0] at q2
  refine WC.skip (WE.then_normal (WC.sub (fr' := [(2, _), (4, _)]) ?_ ⟨rfl, rfl, trivial⟩))
  refine WC.seq ?_
  refine WC.held ([(p, .cells #[S sc, S au, S pa, S (pth pa), .bool (four h)] 36 (0, 0))]) (by kernel_rfl) ?_
  refine WH.q 0 rfl (.head _) (fun w0 => oq_move rfl) rfl rfl rfl ?_
  refine WH.q 1 rfl (.head _) (fun w0 => oq_nilCheck rfl) rfl rfl rfl ?_
  refine WH.q 2 rfl (.head _) (fun w0 => oq_fieldAddr fld36_0 rfl) rfl rfl rfl ?_
  refine WH.q 3 rfl (.head _) (fun w0 => oq_load flat9 rfl (.head _) (List.mem_singleton.2 rfl) rfl) rfl rfl rfl ?_
  refine WH.q 4 rfl (.head _) (fun w0 => oq_move rfl) rfl rfl rfl ?_
  refine WH.q 5 rfl (.head _) (fun w0 => oq_nilCheck rfl) rfl rfl rfl ?_
  refine WH.q 6 rfl (.head _) (fun w0 => oq_fieldAddr fld36_1 rfl) rfl rfl rfl ?_
  refine WH.q 7 rfl (.head _) (fun w0 => oq_load flat9 rfl (.head _) (List.mem_singleton.2 rfl) rfl) rfl rfl rfl ?_
  refine WH.q 8 rfl (.head _) (fun w0 => oq_move rfl) rfl rfl rfl ?_
  refine WH.q 9 rfl (.head _) (fun w0 => oq_nilCheck rfl) rfl rfl rfl ?_
  refine WH.q 10 rfl (.head _) (fun w0 => oq_fieldAddr fld36_2 rfl) rfl rfl rfl ?_
  refine WH.q 11 rfl (.head _) (fun w0 => oq_load flat9 rfl (.head _) (List.mem_singleton.2 rfl) rfl) rfl rfl rfl ?_
  refine WH.q 12 rfl (.head _) (fun w0 => oq_move rfl) rfl rfl rfl ?_
  refine WH.q 13 rfl (.head _) (fun w0 => oq_nilCheck rfl) rfl rfl rfl ?_
  refine WH.q 14 rfl (.head _) (fun w0 => oq_fieldAddr fld36_3 rfl) rfl rfl rfl ?_
  refine WH.q 15 rfl (.head _) (fun w0 => oq_load flat9 rfl (.head _) (List.mem_singleton.2 rfl) rfl) rfl rfl rfl ?_
  refine WH.q 16 rfl (.head _) (fun w0 => oq_move rfl) rfl rfl rfl ?_
  refine WH.q 17 rfl (.head _) (fun w0 => oq_nilCheck rfl) rfl rfl rfl ?_
  refine WH.q 18 rfl (.head _) (fun w0 => oq_fieldAddr fld36_4 rfl) rfl rfl rfl ?_
  refine WH.q 19 rfl (.head _) (fun w0 => oq_load flat4 rfl (.head _) (List.mem_singleton.2 rfl) rfl) rfl rfl rfl ?_
  refine WH.q 20 rfl (.head _) (fun w0 => oq_build #[_, _, _, _, _] str23 ty23 rfl rfl) rfl rfl rfl ?_
  refine WH.step (i := 21) (by kernel_rfl) rfl ?_
  refine WL.f2 ?_
  refine WL.storeS #[_, _, _, _, _] ty23 rfl rfl rfl rfl (Nat.le_of_ble_eq_true rfl) rfl rfl ?_
  refine WL.nil ?_
  refine WE.toH (.tail _ (.head _)) ?_
  refine WH.q 22 rfl (.tail _ (.head _)) (fun w0 => oq_assign rfl) rfl rfl rfl ?_
  refine WH.done (by kernel_rfl) ?_
  refine WE.then_normal (WC.sub (fr' := [(2, _), (3, _)]) ?_ ⟨rfl, rfl, trivial⟩)
  refine WC.ret ?_
  refine WE.endDA (.inl rfl) (rs2 Tryd.results7 (rv_cellS [_, _, _, _, _] agg23 ty23 rfl (.head _) (List.mem_singleton.2 rfl) rfl rfl) (rv_tmp rfl)) (dr_lose hr2 (dr_forget hN1_1 (dr_add0 dr_refl))) fresh0 ?_
  rfl
end MB
end Go.Proofs.YtefaegocllppkaaDoor
/- The law: an address is read as the reference says. -/
namespace Go.Proofs.YtefaegocllppkaaDoor
open Go Go.RowKit V L0 L1 L2 M0 M1 M2 M3 M4 M5 M6 M7 MQ M8 M9 MA MB
set_option linter.unusedSimpArgs false
set_option linter.unusedVariables false
set_option maxRecDepth 10000
namespace MC
theorem call5 : Callable Tryd.prog 5 := ⟨_, Tryd.func5, rfl, by kernel_rfl⟩
theorem call6 : Callable Tryd.prog 6 := ⟨_, Tryd.func6, rfl, by kernel_rfl⟩
theorem call7 : Callable Tryd.prog 7 := ⟨_, Tryd.func7, rfl, by kernel_rfl⟩
theorem ty23 : Ty Tryd.prog 23 (.agg #[(S []), (S []), (S []), (S []), (.bool false)]) 5 72 := ty_of (by kernel_rfl)
theorem agg23 : Agg Tryd.prog 23 := agg_of Tryd.underlying23
set_option maxHeartbeats 2000000 in
theorem lawParse (G : Hp) (hG : Tb G) (s : List UInt8) : FnR Tryd.prog 3 [S s] G (.bool true) := by
 refine FnR.enter (n := 34) Tryd.func3 rfl rfl fun w0 => ?_
 refine WC.sub (fr' := [(0, _)]) ?_ ⟨rfl, trivial⟩
 refine WC.seq (WC.region ?_)
 refine WL.q (oq_assign rfl) rfl rfl rfl ?_
 refine WL.nil (WE.then_normal (WC.sub (fr' := [(0, _)]) ?_ ⟨rfl, trivial⟩))
 refine WC.seq (WC.seq (WC.region ?_))
 refine WL.q (oq_move rfl) rfl rfl rfl ?_
 refine WL.q (oq_len_s Tryd.underlying9 rfl) rfl rfl rfl ?_
 refine WL.q (oq_gtr rfl rfl) rfl rfl rfl ?_
 refine WL.nil (WE.then_normal (WC.sub (fr' := [(0, _), (9, _)]) ?_ ⟨rfl, rfl, trivial⟩))
 refine WC.cond rfl (fun q1 => ?_) (fun q1 => ?_)
 ·
  try simp only [Z1, Z2, Z3, Z4, Z5, Z6, Z7, Z8, Z9, Z0] at q1
  refine WC.seq (WC.region ?_)
  refine WL.q (oq_assign rfl) rfl rfl rfl ?_
  refine WL.nil (WE.then_normal (WC.sub (fr' := [(2, _)]) ?_ ⟨rfl, trivial⟩))
  refine WC.ret (WE.then_ret ?_)
  refine WE.endR (.inl rfl) (res1 Tryd.results3 rfl) ?_
  first | rfl | (exfalso; simp at s7_1; done)
 ·
  try simp only [Z1, Z2, Z3, Z4, Z5, Z6, Z7, Z8, Z9, Z0] at q1
  refine WC.skip (WE.then_normal (WC.sub (fr' := [(0, _)]) ?_ ⟨rfl, trivial⟩))
  refine WC.seq (WC.region ?_)
  refine WL.q (oq_move rfl) rfl rfl rfl ?_
  refine WL.callA0 (eURLOf s (by omega)) call5 rfl rfl rfl fun v3_1 N3_1 hR3_1 hN3_1 => ?_
  obtain ⟨a, b, c, d, e, ok, rfl, hok⟩ := hR3_1
  refine WL.q (oq_move rfl) rfl rfl rfl ?_
  refine WL.q (oq_extract rfl rfl) rfl rfl rfl ?_
  refine WL.q (oq_extract rfl rfl) rfl rfl rfl ?_
  refine WL.alloc ty23 rfl rfl fun b3 hb3 => ?_
  refine WL.storeS #[_, _, _, _, _] ty23 rfl rfl rfl rfl (Nat.le_of_ble_eq_true rfl) rfl rfl ?_
  refine WL.q (oq_assign rfl) rfl rfl rfl ?_
  refine WL.nil (WE.then_normal (WC.sub (fr' := [(0, _), (3, _), (4, _)]) ?_ ⟨rfl, rfl, rfl, trivial⟩))
  refine WC.seq (WC.seq (WC.region ?_))
  refine WL.q (oq_move rfl) rfl rfl rfl ?_
  refine WL.q (oq_len_s Tryd.underlying9 rfl) rfl rfl rfl ?_
  refine WL.q (oq_gtr rfl rfl) rfl rfl rfl ?_
  refine WL.q (oq_move rfl) rfl rfl rfl ?_
  refine WL.split 18 rfl (fun s4_3 => ?_) (fun s4_3 => ?_)
  ·
   try simp only [Z1, Z2, Z3, Z4, Z5, Z6, Z7, Z8, Z9, Z0] at s4_3
   refine WL.skip rfl rfl rfl ?_
   refine WL.skip rfl rfl rfl ?_
   refine WL.q (oq_pick_t rfl rfl) rfl rfl rfl ?_
   refine WL.nil (WE.then_normal (WC.sub (fr' := [(0, _), (3, _), (21, _)]) ?_ ⟨rfl, rfl, rfl, trivial⟩))
   refine WC.cond_t rfl ?_
   refine WC.seq (WC.region ?_)
   refine WL.qc (oq_call (eAwake) call6 rfl) rfl rfl rfl ?_
   refine WL.q (oq_assign rfl) rfl rfl rfl ?_
   refine WL.nil (WE.then_normal (WC.sub (fr' := [(2, _)]) ?_ ⟨rfl, trivial⟩))
   refine WC.ret (WE.then_ret ?_)
   refine WE.lose hb3 ?_
   refine WE.forget hN3_1 ?_
   refine WE.endR (.inl rfl) (res1 Tryd.results3 rfl) ?_
   first | rfl | (exfalso; simp at s7_1; done)
  ·
   try simp only [Z1, Z2, Z3, Z4, Z5, Z6, Z7, Z8, Z9, Z0] at s4_3
   refine WL.q (oq_move rfl) rfl rfl rfl ?_
   refine WL.q (oq_not rfl) rfl rfl rfl ?_
   refine WL.q (oq_pick_f rfl rfl) rfl rfl rfl ?_
   refine WL.nil (WE.then_normal (WC.sub (fr' := [(0, _), (3, _), (21, _)]) ?_ ⟨rfl, rfl, rfl, trivial⟩))
   refine WC.cond rfl (fun q4 => ?_) (fun q4 => ?_)
   ·
    try simp only [Z1, Z2, Z3, Z4, Z5, Z6, Z7, Z8, Z9, Z0] at q4
    refine WC.seq (WC.region ?_)
    refine WL.qc (oq_call (eAwake) call6 rfl) rfl rfl rfl ?_
    refine WL.q (oq_assign rfl) rfl rfl rfl ?_
    refine WL.nil (WE.then_normal (WC.sub (fr' := [(2, _)]) ?_ ⟨rfl, trivial⟩))
    refine WC.ret (WE.then_ret ?_)
    refine WE.lose hb3 ?_
    refine WE.forget hN3_1 ?_
    refine WE.endR (.inl rfl) (res1 Tryd.results3 rfl) ?_
    first | rfl | (exfalso; simp at s7_1; done)
   ·
    try simp only [Z1, Z2, Z3, Z4, Z5, Z6, Z7, Z8, Z9, Z0] at q4
    refine WC.skip (WE.then_normal (WC.sub (fr' := [(0, _), (3, _)]) ?_ ⟨rfl, rfl, trivial⟩))
    refine WC.seq ?_
    obtain ⟨h, hg, rfl, rfl⟩ := hok (by simpa using q4)
    obtain ⟨hu, rfl, hsc⟩ := good_uok hg
    refine WC.region ?_
    refine WL.q (oq_move rfl) rfl rfl rfl ?_
    refine WL.f2 ?_
    refine WL.callA (eParse G hG hu (by omega) hsc) call7 rfl rfl rfl fun v6_1 N6_1 hR6_1 hN6_1 => ?_
    subst hR6_1
    refine WL.q (oq_move rfl) rfl rfl rfl ?_
    refine WL.q (oq_extract rfl rfl) rfl rfl rfl ?_
    refine WL.q (oq_extract rfl rfl) rfl rfl rfl ?_
    refine WL.alloc ty23 rfl rfl fun b6 hb6 => ?_
    refine WL.storeS #[_, _, _, _, _] ty23 rfl rfl rfl rfl (Nat.le_of_ble_eq_true rfl) rfl rfl ?_
    refine WL.q (oq_assign rfl) rfl rfl rfl ?_
    refine WL.nil (WE.then_normal (WC.sub (fr' := [(3, _), (5, _), (6, _)]) ?_ ⟨rfl, rfl, rfl, trivial⟩))
    refine WC.seq (WC.region ?_)
    refine WL.q (oq_move rfl) rfl rfl rfl ?_
    refine WL.q (oq_move rfl) rfl rfl rfl ?_
    refine WL.split 29 rfl (fun s7_1 => ?_) (fun s7_1 => ?_)
    ·
     try simp only [Z1, Z2, Z3, Z4, Z5, Z6, Z7, Z8, Z9, Z0] at s7_1
     refine WL.q (oq_loadS [_, _, _, _, _] agg23 ty23 rfl (.head _) (List.mem_singleton.2 rfl) rfl rfl) rfl rfl rfl ?_
     refine WL.q (oq_loadS [_, _, _, _, _] agg23 ty23 rfl (.tail _ (.tail _ (.tail _ (.head _)))) (List.mem_singleton.2 rfl) rfl rfl) rfl rfl rfl ?_
     refine WL.q (oq_eqE rfl rfl) rfl rfl rfl ?_
     refine WL.q (oq_pick_t rfl rfl) rfl rfl rfl ?_
     refine WL.q (oq_assign rfl) rfl rfl rfl ?_
     refine WL.nil (WE.then_normal (WC.sub (fr' := [(2, _)]) ?_ ⟨rfl, trivial⟩))
     refine WC.ret ?_
     refine WE.lose hb6 ?_
     refine WE.forget hN6_1 ?_
     refine WE.f1 ?_
     refine WE.lose hb3 ?_
     refine WE.f1 ?_
     refine WE.forget hN3_1 ?_
     refine WE.endR (.inl rfl) (res1 Tryd.results3 rfl) ?_
     first | rfl | (exfalso; simp at s7_1; done)
    ·
     try simp only [Z1, Z2, Z3, Z4, Z5, Z6, Z7, Z8, Z9, Z0] at s7_1
     refine WL.skip rfl rfl rfl ?_
     refine WL.skip rfl rfl rfl ?_
     refine WL.skip rfl rfl rfl ?_
     refine WL.q (oq_pick_f rfl rfl) rfl rfl rfl ?_
     refine WL.q (oq_assign rfl) rfl rfl rfl ?_
     refine WL.nil (WE.then_normal (WC.sub (fr' := [(2, _)]) ?_ ⟨rfl, trivial⟩))
     refine WC.ret ?_
     refine WE.lose hb6 ?_
     refine WE.forget hN6_1 ?_
     refine WE.f1 ?_
     refine WE.lose hb3 ?_
     refine WE.f1 ?_
     refine WE.forget hN3_1 ?_
     refine WE.endR (.inl rfl) (res1 Tryd.results3 rfl) ?_
     first | rfl | (exfalso; simp at s7_1; done)
end MC
end Go.Proofs.YtefaegocllppkaaDoor
/- The engine, part 18: package variables that hold sentinels, or tables of numbers; slices of bytes that come in. Over any program. -/
namespace Go.Proofs.YtefaegocllppkaaDoor.V
open Go Go.RowKit Go.ChangeShapes Go.WideShapes
set_option linter.unusedSimpArgs false
set_option linter.unusedVariables false
theorem var_heap {P : Program} {w : World} {n : String} {g : Nat} {cs : Array Value} (hg : P.globalNamed n = some g) (hv : w.var? P n = some cs) : ∃ t f, w.heap[g]? = some (.cells cs t f) := by
 simp only [World.var?, hg, Option.bind_some] at hv
 split at hv
 ·rename_i c t f h; simp at hv; subst hv; exact ⟨_, _, h⟩
 ·cases hv
section
variable {H : Type} {enc : TypeId × Value → H} {P : Program} {w : World} {base : Nat}
end
end Go.Proofs.YtefaegocllppkaaDoor.V
/- What the listed table of the addresses' rows holds. -/
namespace Go.Proofs.YtefaegocllppkaaDoor
open Go V M3 Go.RowKit Go.ChangeShapes Go.WideShapes
set_option linter.unusedVariables false
set_option linter.unusedSimpArgs false
set_option maxRecDepth 100000
namespace ML
theorem laid_tab {P : Program} {w : World} {n : String} {g : Nat} {t e : TypeId} {m : Nat} {k : IntKind} {zs : List Int} {r : List (String × DataW Unit)} {ps : List MemPlace} (hg : P.globalNamed n = some g) (hty : (P.globals[g]?).map (·.type) = some t) (ht : P.underlying t = some (.array m e)) (he : P.underlying e = some (.int k)) (hce : P.cellsOf e = 1) (hct : P.cellsOf t = m) (h : DataW.LaidVars P w ((n, Lib.tabData k zs) :: r) ps) :
  (∃ t f, w.heap[g]? = some (.cells (zs.map fun z => Value.int k z).toArray t f)) ∧ ∃ q, DataW.LaidVars P w r q := by
 obtain ⟨g', t', cs, fuel, p, q, hg', ht', hvar, hd, hr, rfl⟩ := h
 obtain rfl := Option.some.inj (hg.symm.trans hg')
 obtain rfl := Option.some.inj (hty.symm.trans ht')
 have e1 := Lib.cells_of_tab ht he hce hct hd
 have e2 : cs = (zs.map fun z => Value.int k z).toArray := by rw [← e1]
 rw [e2] at hvar
 exact ⟨var_heap hg hvar, q, hr⟩
theorem isTab : (Rows.laid_given_example_pub_tinwright_pub_neturl_table : DataW Unit) = Lib.tabData .u8 tabZ := by kernel_rfl
theorem g1 : Tryd.prog.globalNamed "given.example/pub-tinwright/pub/neturl.table" = some 1 := by kernel_rfl
theorem t1 : (Tryd.prog.globals[1]?).map (·.type) = some 116 := by kernel_rfl
theorem tab_len : tabZ.length = 256 := by kernel_rfl
theorem eparse_laid {W : World} (h : laidMetH Tryd.prog Rows.fnEParsesRow.laid W) : ∃ G, Has G W ∧ Tb G := by
 rw [Go.MakeChecks.laidMetH_plain _ _ _ (by kernel_rfl)] at h
 obtain ⟨ps, hl, _, hall⟩ := h
 have hl : DataW.LaidVars Tryd.prog W [("given.example/pub-tinwright/pub/neturl.table", Rows.laid_given_example_pub_tinwright_pub_neturl_table)] ps := hl
 rw [isTab] at hl
 obtain ⟨⟨ty1, f1, h1⟩, q1, hl⟩ := laid_tab g1 t1 Tryd.underlying116 Tryd.underlying77 (by kernel_rfl) (by kernel_rfl) hl
 refine ⟨[(1, .cells (tabZ.map fun z => Value.int .u8 z).toArray ty1 f1)], ⟨fun b o hb => ?_, by simp⟩, _, _, _, .head _, fun c hc => ?_⟩
 ·simp only [List.mem_cons, Prod.mk.injEq, List.not_mem_nil, or_false] at hb
  obtain ⟨rfl, rfl⟩ := hb
  exact h1
 ·have hl2 : c < tabZ.length := by rw [tab_len]; exact hc
  unfold tz
  simp [List.getElem?_map, List.getD_eq_getElem?_getD, List.getElem?_eq_getElem hl2]
theorem weaken {G C : Hp} (h : Tb G) (hs : ∀ x ∈ G, x ∈ C) : Tb C := by
 obtain ⟨cs, e, fz, hm, hc⟩ := h
 exact ⟨cs, e, fz, hs _ hm, hc⟩
end ML
end Go.Proofs.YtefaegocllppkaaDoor
