/- All five steps behind operations, walked. -/
import Derived.Test.YtclafiglpcjhdaaGreatS8
namespace Go.Proofs.YtclafiglpcjhdaaGreat
open Go Go.RowKit V S0 S1 S2 S3 S4 S5 S6 S7 S8
set_option linter.unusedSimpArgs false
set_option linter.unusedVariables false
set_option maxRecDepth 10000
namespace S9
theorem call24 : Callable Tryz.prog 24 := ⟨_, Tryz.func24, rfl, by kernel_rfl⟩
theorem call26 : Callable Tryz.prog 26 := ⟨_, Tryz.func26, rfl, by kernel_rfl⟩
theorem call27 : Callable Tryz.prog 27 := ⟨_, Tryz.func27, rfl, by kernel_rfl⟩
theorem call28 : Callable Tryz.prog 28 := ⟨_, Tryz.func28, rfl, by kernel_rfl⟩
theorem call29 : Callable Tryz.prog 29 := ⟨_, Tryz.func29, rfl, by kernel_rfl⟩
theorem call30 : Callable Tryz.prog 30 := ⟨_, Tryz.func30, rfl, by kernel_rfl⟩
theorem flat1 : Flat Tryz.prog 1 := ⟨_, Tryz.underlying1, by simp⟩
theorem flat3 : Flat Tryz.prog 3 := ⟨_, Tryz.underlying3, by simp⟩
theorem flat4 : Flat Tryz.prog 4 := ⟨_, Tryz.underlying4, by simp⟩
theorem flat9 : Flat Tryz.prog 9 := ⟨_, Tryz.underlying9, by simp⟩
theorem flat55 : Flat Tryz.prog 55 := ⟨_, Tryz.underlying55, by simp⟩
theorem flat56 : Flat Tryz.prog 56 := ⟨_, Tryz.underlying56, by simp⟩
theorem flat57 : Flat Tryz.prog 57 := ⟨_, Tryz.underlying57, by simp⟩
theorem flat58 : Flat Tryz.prog 58 := ⟨_, Tryz.underlying58, by simp⟩
theorem flat80 : Flat Tryz.prog 80 := ⟨_, Tryz.underlying80, by simp⟩
theorem flat81 : Flat Tryz.prog 81 := ⟨_, Tryz.underlying81, by simp⟩
theorem flat82 : Flat Tryz.prog 82 := ⟨_, Tryz.underlying82, by simp⟩
theorem flat83 : Flat Tryz.prog 83 := ⟨_, Tryz.underlying83, by simp⟩
theorem flat84 : Flat Tryz.prog 84 := ⟨_, Tryz.underlying84, by simp⟩
theorem ty1 : Ty Tryz.prog 1 .nilFunc 1 8 := ty_of (by kernel_rfl)
theorem ty3 : Ty Tryz.prog 3 (.int .i64 0) 1 8 := ty_of (by kernel_rfl)
theorem ty4 : Ty Tryz.prog 4 (.bool false) 1 1 := ty_of (by kernel_rfl)
theorem ty9 : Ty Tryz.prog 9 (S []) 1 16 := ty_of (by kernel_rfl)
theorem ty40 : Ty Tryz.prog 40 (.agg #[(.int .i64 0), (.int .i64 0), (S []), (S []), (.bool false)]) 5 56 := ty_of (by kernel_rfl)
theorem ty55 : Ty Tryz.prog 55 .nilFunc 1 8 := ty_of (by kernel_rfl)
theorem ty56 : Ty Tryz.prog 56 .nilFunc 1 8 := ty_of (by kernel_rfl)
theorem ty57 : Ty Tryz.prog 57 .nilFunc 1 8 := ty_of (by kernel_rfl)
theorem ty58 : Ty Tryz.prog 58 .nilFunc 1 8 := ty_of (by kernel_rfl)
theorem ty62 : Ty Tryz.prog 62 (.agg #[.nilFunc, .nilFunc, .nilFunc, .nilFunc, .nilFunc, .nilFunc, .nilFunc]) 7 56 := ty_of (by kernel_rfl)
theorem ty63 : Ty Tryz.prog 63 (.agg #[.nilFunc, .nilFunc, .nilFunc, .nilFunc, .nilFunc, .nilFunc, .nilFunc, .nilFunc, .nilFunc, .nilFunc, .nilFunc, .nilFunc, .nilFunc, .nilFunc, .nilFunc, .nilFunc, .nilFunc, .nilFunc, .nilFunc, .nilFunc, .nilFunc, .nilFunc, .nilFunc, .nilFunc, .nilFunc, .nilFunc, .nilFunc, .nilFunc, .nilFunc, .nilFunc, .nilFunc, .nilFunc, .nilFunc, .nilFunc, .nilFunc]) 35 280 := ty_of (by kernel_rfl)
theorem ty80 : Ty Tryz.prog 80 (.pointer none) 1 8 := ty_of (by kernel_rfl)
theorem ty81 : Ty Tryz.prog 81 (.pointer none) 1 8 := ty_of (by kernel_rfl)
theorem ty82 : Ty Tryz.prog 82 (.pointer none) 1 8 := ty_of (by kernel_rfl)
theorem ty83 : Ty Tryz.prog 83 (.pointer none) 1 8 := ty_of (by kernel_rfl)
theorem ty84 : Ty Tryz.prog 84 (.pointer none) 1 8 := ty_of (by kernel_rfl)
theorem agg40 : Agg Tryz.prog 40 := agg_of Tryz.underlying40
theorem agg62 : Agg Tryz.prog 62 := agg_of Tryz.underlying62
theorem agg63 : Agg Tryz.prog 63 := agg_arr Tryz.underlying63
theorem fld40_0 : Fld Tryz.prog 40 0 0 3 := fld_of Tryz.underlying40 rfl rfl rfl ty3 (by decide)
theorem fld40_1 : Fld Tryz.prog 40 1 1 3 := fld_of Tryz.underlying40 rfl rfl rfl ty3 (by decide)
theorem fld40_2 : Fld Tryz.prog 40 2 2 9 := fld_of Tryz.underlying40 rfl rfl rfl ty9 (by decide)
theorem fld40_3 : Fld Tryz.prog 40 3 3 9 := fld_of Tryz.underlying40 rfl rfl rfl ty9 (by decide)
theorem fld40_4 : Fld Tryz.prog 40 4 4 4 := fld_of Tryz.underlying40 rfl rfl rfl ty4 (by decide)
theorem fld62_0 : Fld Tryz.prog 62 0 0 55 := fld_of Tryz.underlying62 rfl rfl rfl ty55 (by decide)
theorem fld62_1 : Fld Tryz.prog 62 1 1 56 := fld_of Tryz.underlying62 rfl rfl rfl ty56 (by decide)
theorem fld62_2 : Fld Tryz.prog 62 2 2 57 := fld_of Tryz.underlying62 rfl rfl rfl ty57 (by decide)
theorem fld62_3 : Fld Tryz.prog 62 3 3 58 := fld_of Tryz.underlying62 rfl rfl rfl ty58 (by decide)
theorem fld62_4 : Fld Tryz.prog 62 4 4 1 := fld_of Tryz.underlying62 rfl rfl rfl ty1 (by decide)
theorem fld86_0 : Fld Tryz.prog 86 0 0 80 := fld_of Tryz.underlying86 rfl rfl rfl ty80 (by decide)
theorem fld86_1 : Fld Tryz.prog 86 1 1 81 := fld_of Tryz.underlying86 rfl rfl rfl ty81 (by decide)
theorem fld86_2 : Fld Tryz.prog 86 2 2 82 := fld_of Tryz.underlying86 rfl rfl rfl ty82 (by decide)
theorem fld86_3 : Fld Tryz.prog 86 3 3 83 := fld_of Tryz.underlying86 rfl rfl rfl ty83 (by decide)
theorem fld86_4 : Fld Tryz.prog 86 4 4 84 := fld_of Tryz.underlying86 rfl rfl rfl ty84 (by decide)
/-- given.example/pub-tinwright/impl.done -/
theorem done (v : Value) (A : Hp) (l : List WO) (hr : RdS 5 v A l.length (recsV wof l)) (hl : l.length ≤ 60) (hok : l.all lookP = true) (cb : Nat) : FnA Tryz.prog 20 [v, Pt cb 0] A (fun r N => DR cb l r N) := by
  refine FnA.enter (n := 120) Tryz.func20 rfl rfl fun w0 => ?_
  refine WC.sub (fr' := [(0, _), (1, _)]) ?_ ⟨rfl, rfl, trivial⟩
  refine WC.seq (WC.region ?_)
  refine WL.q (oq_assign rfl) rfl rfl rfl ?_
  refine WL.alloc ty63 rfl rfl fun rb hrb => ?_
  refine WL.q (oq_assign rfl) rfl rfl rfl ?_
  refine WL.nil (WE.then_normal (WC.sub (fr' := [(0, _), (1, _), (5, _)]) ?_ ⟨rfl, rfl, rfl, trivial⟩))
  refine WC.seq (WC.region ?_)
  refine WL.callA0 (newStack nmS) call24 rfl rfl rfl fun v1_0 N1_0 hR1_0 hN1_0 => ?_
  obtain ⟨st, s0, s1, s2, s3, s4, rfl, rfl⟩ := hR1_0
  have hfr := hN1_0
  refine WL.reg cat6 ?_
  refine WL.q (oq_assign rfl) rfl rfl rfl ?_
  refine WL.nil (WE.then_normal (WC.sub (fr' := [(0, _), (1, _), (5, _), (7, _)]) ?_ ⟨rfl, rfl, rfl, rfl, trivial⟩))
  refine WC.cut (ι := Nat × Nat × Nat × SS) (fun i_ => (fun (rb : Nat) (st : Nat) (tb : Nat) (G : SS) => [(0, v), (5, Pt rb 0), (7, Pt st 0), (8, Pt tb 0)]) i_.1 i_.2.1 i_.2.2.1 i_.2.2.2) (fun i_ => (fun (rb : Nat) (st : Nat) (tb : Nat) (G : SS) => [[(rb, .cells #[.nilFunc, .nilFunc, .nilFunc, .nilFunc, .nilFunc, .nilFunc, .nilFunc, .nilFunc, .nilFunc, .nilFunc, .nilFunc, .nilFunc, .nilFunc, .nilFunc, .nilFunc, .nilFunc, .nilFunc, .nilFunc, .nilFunc, .nilFunc, .nilFunc, .nilFunc, .nilFunc, .nilFunc, .nilFunc, .nilFunc, .nilFunc, .nilFunc, .nilFunc, .nilFunc, .nilFunc, .nilFunc, .nilFunc, .nilFunc, .nilFunc] 63 (0, 0))], [(tb, .cells (stps G) 63 (0, 0))], stk st G nmS, All G (fun _ => []), xboxes G cb, A]) i_.1 i_.2.1 i_.2.2.1 i_.2.2.2) (fun i_ => (fun (rb : Nat) (st : Nat) (tb : Nat) (G : SS) => w0.heap.size ≤ rb ∧ w0.heap.size ≤ st ∧ w0.heap.size ≤ tb ∧ SOk G w0.heap.size ∧ (∀ i, i < 5 → w0.heap.size ≤ G.b3 i)) i_.1 i_.2.1 i_.2.2.1 i_.2.2.2) ?_ ?_
  ·
    refine WC.held ([(st, .cells #[Pt s0 0, Pt s1 0, Pt s2 0, Pt s3 0, Pt s4 0, S nmS] 86 (0, 0))]) (by kernel_rfl) ?_
    refine WH.q 0 rfl (.head _) (fun w0 => oq_move rfl) rfl rfl rfl ?_
    refine WH.q 1 rfl (.head _) (fun w0 => oq_nilCheck rfl) rfl rfl rfl ?_
    refine WH.q 2 rfl (.head _) (fun w0 => oq_fieldAddr fld86_0 rfl) rfl rfl rfl ?_
    refine WH.q 3 rfl (.head _) (fun w0 => oq_load flat80 rfl (.head _) (List.mem_singleton.2 rfl) rfl) rfl rfl rfl ?_
    refine WH.q 4 rfl (.head _) (fun w0 => oq_move rfl) rfl rfl rfl ?_
    refine WH.q 6 rfl (.head _) (fun w0 => oq_move rfl) rfl rfl rfl ?_
    refine WH.q 7 rfl (.head _) (fun w0 => oq_nilCheck rfl) rfl rfl rfl ?_
    refine WH.q 8 rfl (.head _) (fun w0 => oq_fieldAddr fld86_1 rfl) rfl rfl rfl ?_
    refine WH.q 9 rfl (.head _) (fun w0 => oq_load flat81 rfl (.head _) (List.mem_singleton.2 rfl) rfl) rfl rfl rfl ?_
    refine WH.q 10 rfl (.head _) (fun w0 => oq_move rfl) rfl rfl rfl ?_
    refine WH.q 12 rfl (.head _) (fun w0 => oq_move rfl) rfl rfl rfl ?_
    refine WH.q 13 rfl (.head _) (fun w0 => oq_nilCheck rfl) rfl rfl rfl ?_
    refine WH.q 14 rfl (.head _) (fun w0 => oq_fieldAddr fld86_2 rfl) rfl rfl rfl ?_
    refine WH.q 15 rfl (.head _) (fun w0 => oq_load flat82 rfl (.head _) (List.mem_singleton.2 rfl) rfl) rfl rfl rfl ?_
    refine WH.q 16 rfl (.head _) (fun w0 => oq_move rfl) rfl rfl rfl ?_
    refine WH.q 18 rfl (.head _) (fun w0 => oq_move rfl) rfl rfl rfl ?_
    refine WH.q 19 rfl (.head _) (fun w0 => oq_nilCheck rfl) rfl rfl rfl ?_
    refine WH.q 20 rfl (.head _) (fun w0 => oq_fieldAddr fld86_3 rfl) rfl rfl rfl ?_
    refine WH.q 21 rfl (.head _) (fun w0 => oq_load flat83 rfl (.head _) (List.mem_singleton.2 rfl) rfl) rfl rfl rfl ?_
    refine WH.q 22 rfl (.head _) (fun w0 => oq_move rfl) rfl rfl rfl ?_
    refine WH.q 24 rfl (.head _) (fun w0 => oq_move rfl) rfl rfl rfl ?_
    refine WH.q 25 rfl (.head _) (fun w0 => oq_nilCheck rfl) rfl rfl rfl ?_
    refine WH.q 26 rfl (.head _) (fun w0 => oq_fieldAddr fld86_4 rfl) rfl rfl rfl ?_
    refine WH.q 27 rfl (.head _) (fun w0 => oq_load flat84 rfl (.head _) (List.mem_singleton.2 rfl) rfl) rfl rfl rfl ?_
    refine WH.q 28 rfl (.head _) (fun w0 => oq_move rfl) rfl rfl rfl ?_
    refine WH.fork (i := 5) (j := 31) (by kernel_rfl) rfl rfl ?_ ?_
    ·
      refine WL.callA0 (mk0 s0 cb) call26 rfl rfl rfl fun v2_5 N2_5 hR2_5 hN2_5 => ?_
      obtain ⟨b2_0, b5_0, b3_0, rfl, rfl⟩ := hR2_5
      have hfr0 := hN2_5
      refine WL.nil ?_
      refine WE.toH (.tail _ (.head _)) ?_
      refine WH.fork (i := 11) (j := 31) (by kernel_rfl) rfl rfl ?_ ?_
      ·
        refine WL.callA0 (mk1 s1 cb) call27 rfl rfl rfl fun v2_11 N2_11 hR2_11 hN2_11 => ?_
        obtain ⟨b2_1, b5_1, b3_1, rfl, rfl⟩ := hR2_11
        have hfr1 := hN2_11
        refine WL.nil ?_
        refine WE.toH (.tail _ (.tail _ (.head _))) ?_
        refine WH.fork (i := 17) (j := 31) (by kernel_rfl) rfl rfl ?_ ?_
        ·
          refine WL.callA0 (mk2 s2 cb) call28 rfl rfl rfl fun v2_17 N2_17 hR2_17 hN2_17 => ?_
          obtain ⟨b2_2, b5_2, b3_2, rfl, rfl⟩ := hR2_17
          have hfr2 := hN2_17
          refine WL.nil ?_
          refine WE.toH (.tail _ (.tail _ (.tail _ (.head _)))) ?_
          refine WH.fork (i := 23) (j := 31) (by kernel_rfl) rfl rfl ?_ ?_
          ·
            refine WL.callA0 (mk3 s3 cb) call29 rfl rfl rfl fun v2_23 N2_23 hR2_23 hN2_23 => ?_
            obtain ⟨b2_3, b5_3, b3_3, rfl, rfl⟩ := hR2_23
            have hfr3 := hN2_23
            refine WL.nil ?_
            refine WE.toH (.tail _ (.tail _ (.tail _ (.tail _ (.head _))))) ?_
            refine WH.fork (i := 29) (j := 31) (by kernel_rfl) rfl rfl ?_ ?_
            ·
              refine WL.callA0 (mk4 s4 cb) call30 rfl rfl rfl fun v2_29 N2_29 hR2_29 hN2_29 => ?_
              obtain ⟨b2_4, b5_4, b3_4, rfl, rfl⟩ := hR2_29
              have hfr4 := hN2_29
              refine WL.nil ?_
              refine WE.toH (.tail _ (.tail _ (.tail _ (.tail _ (.tail _ (.head _)))))) ?_
              refine WH.q 30 rfl (.tail _ (.tail _ (.tail _ (.tail _ (.tail _ (.head _)))))) (fun w0 => oq_buildA (stps (⟨sel5 s0 s1 s2 s3 s4, sel5 b2_0 b2_1 b2_2 b2_3 b2_4, sel5 b5_0 b5_1 b5_2 b5_3 b5_4, sel5 b3_0 b3_1 b3_2 b3_3 b3_4⟩ : SS)) Tryz.underlying63 ty62 ty63 rfl (by kernel_rfl)) rfl rfl rfl ?_
              refine WH.step (i := 31) (by kernel_rfl) rfl ?_
              refine WL.alloc ty63 rfl rfl fun tb htb => ?_
              refine WL.nil ?_
              refine WE.toH (.tail _ (.tail _ (.tail _ (.tail _ (.tail _ (.tail _ (.head _))))))) ?_
              refine WH.step (i := 32) (by kernel_rfl) rfl ?_
              refine WL.storeS (stps (⟨sel5 s0 s1 s2 s3 s4, sel5 b2_0 b2_1 b2_2 b2_3 b2_4, sel5 b5_0 b5_1 b5_2 b5_3 b5_4, sel5 b3_0 b3_1 b3_2 b3_3 b3_4⟩ : SS)) ty63 rfl rfl (by kernel_rfl) (by kernel_rfl) (Nat.le_of_ble_eq_true rfl) (by kernel_rfl) rfl ?_
              refine WL.nil ?_
              refine WE.toH (.tail _ (.tail _ (.tail _ (.tail _ (.tail _ (.tail _ (.head _))))))) ?_
              refine WH.done (by kernel_rfl) ?_
              refine WE.f7 ?_
              refine WE.f2 ?_
              refine WE.f3 ?_
              refine WE.f4 ?_
              refine WE.f5 ?_
              refine WE.f6 ?_
              refine WE.reg perm_start ?_
              obtain ⟨hst, hs0, hs1, hs2, hs3, hs4⟩ := stack_fr hfr
              refine WE.f5 ?_
              refine WE.f2 ?_
              refine WE.f2 ?_
              refine WE.f4 ?_
              refine WE.f4 ?_
              refine WE.f5 ?_
              refine WE.meet (rb, st, tb, (⟨sel5 s0 s1 s2 s3 s4, sel5 b2_0 b2_1 b2_2 b2_3 b2_4, sel5 b5_0 b5_1 b5_2 b5_3 b5_4, sel5 b3_0 b3_1 b3_2 b3_3 b3_4⟩ : SS)) ?_ ⟨rfl, rfl, rfl, rfl, trivial⟩ (List.Perm.refl _)
              try dsimp only
              exact ⟨hrb, hst, htb, sok_of (cb := cb) (fun i hi => match i, hi with | 0, _ => hs0 | 1, _ => hs1 | 2, _ => hs2 | 3, _ => hs3 | 4, _ => hs4) (fun i hi => match i, hi with | 0, _ => hfr0 | 1, _ => hfr1 | 2, _ => hfr2 | 3, _ => hfr3 | 4, _ => hfr4), fun i hi => match i, hi with | 0, _ => b3_of hfr0 | 1, _ => b3_of hfr1 | 2, _ => b3_of hfr2 | 3, _ => b3_of hfr3 | 4, _ => b3_of hfr4⟩   -- meet 0
            ·
              refine WL.alloc ty63 rfl rfl fun tb htb => ?_
              refine WL.nil ?_
              refine WE.toH (.tail _ (.tail _ (.tail _ (.tail _ (.tail _ (.head _)))))) ?_
              refine WH.step (i := 29) (by kernel_rfl) rfl ?_
              refine WL.callA0 (mk4 s4 cb) call30 rfl rfl rfl fun v2_29 N2_29 hR2_29 hN2_29 => ?_
              obtain ⟨b2_4, b5_4, b3_4, rfl, rfl⟩ := hR2_29
              have hfr4 := hN2_29
              refine WL.nil ?_
              refine WE.toH (.tail _ (.tail _ (.tail _ (.tail _ (.tail _ (.tail _ (.head _))))))) ?_
              refine WH.q 30 rfl (.tail _ (.tail _ (.tail _ (.tail _ (.tail _ (.tail _ (.head _))))))) (fun w0 => oq_buildA (stps (⟨sel5 s0 s1 s2 s3 s4, sel5 b2_0 b2_1 b2_2 b2_3 b2_4, sel5 b5_0 b5_1 b5_2 b5_3 b5_4, sel5 b3_0 b3_1 b3_2 b3_3 b3_4⟩ : SS)) Tryz.underlying63 ty62 ty63 rfl (by kernel_rfl)) rfl rfl rfl ?_
              refine WH.step (i := 32) (by kernel_rfl) rfl ?_
              refine WL.f1 ?_
              refine WL.storeS (stps (⟨sel5 s0 s1 s2 s3 s4, sel5 b2_0 b2_1 b2_2 b2_3 b2_4, sel5 b5_0 b5_1 b5_2 b5_3 b5_4, sel5 b3_0 b3_1 b3_2 b3_3 b3_4⟩ : SS)) ty63 rfl rfl (by kernel_rfl) (by kernel_rfl) (Nat.le_of_ble_eq_true rfl) (by kernel_rfl) rfl ?_
              refine WL.nil ?_
              refine WE.toH (.tail _ (.tail _ (.tail _ (.tail _ (.tail _ (.tail _ (.head _))))))) ?_
              refine WH.done (by kernel_rfl) ?_
              refine WE.f7 ?_
              refine WE.f2 ?_
              refine WE.f3 ?_
              refine WE.f4 ?_
              refine WE.f5 ?_
              refine WE.f6 ?_
              refine WE.reg perm_start ?_
              obtain ⟨hst, hs0, hs1, hs2, hs3, hs4⟩ := stack_fr hfr
              refine WE.f5 ?_
              refine WE.f2 ?_
              refine WE.f2 ?_
              refine WE.f4 ?_
              refine WE.f4 ?_
              refine WE.f5 ?_
              refine WE.meet (rb, st, tb, (⟨sel5 s0 s1 s2 s3 s4, sel5 b2_0 b2_1 b2_2 b2_3 b2_4, sel5 b5_0 b5_1 b5_2 b5_3 b5_4, sel5 b3_0 b3_1 b3_2 b3_3 b3_4⟩ : SS)) ?_ ⟨rfl, rfl, rfl, rfl, trivial⟩ (List.Perm.refl _)
              try dsimp only
              exact ⟨hrb, hst, htb, sok_of (cb := cb) (fun i hi => match i, hi with | 0, _ => hs0 | 1, _ => hs1 | 2, _ => hs2 | 3, _ => hs3 | 4, _ => hs4) (fun i hi => match i, hi with | 0, _ => hfr0 | 1, _ => hfr1 | 2, _ => hfr2 | 3, _ => hfr3 | 4, _ => hfr4), fun i hi => match i, hi with | 0, _ => b3_of hfr0 | 1, _ => b3_of hfr1 | 2, _ => b3_of hfr2 | 3, _ => b3_of hfr3 | 4, _ => b3_of hfr4⟩   -- meet 1
          ·
            refine WL.alloc ty63 rfl rfl fun tb htb => ?_
            refine WL.nil ?_
            refine WE.toH (.tail _ (.tail _ (.tail _ (.tail _ (.head _))))) ?_
            refine WH.step (i := 23) (by kernel_rfl) rfl ?_
            refine WL.callA0 (mk3 s3 cb) call29 rfl rfl rfl fun v2_23 N2_23 hR2_23 hN2_23 => ?_
            obtain ⟨b2_3, b5_3, b3_3, rfl, rfl⟩ := hR2_23
            have hfr3 := hN2_23
            refine WL.nil ?_
            refine WE.toH (.tail _ (.tail _ (.tail _ (.tail _ (.tail _ (.head _)))))) ?_
            refine WH.step (i := 29) (by kernel_rfl) rfl ?_
            refine WL.callA0 (mk4 s4 cb) call30 rfl rfl rfl fun v2_29 N2_29 hR2_29 hN2_29 => ?_
            obtain ⟨b2_4, b5_4, b3_4, rfl, rfl⟩ := hR2_29
            have hfr4 := hN2_29
            refine WL.nil ?_
            refine WE.toH (.tail _ (.tail _ (.tail _ (.tail _ (.tail _ (.tail _ (.head _))))))) ?_
            refine WH.q 30 rfl (.tail _ (.tail _ (.tail _ (.tail _ (.tail _ (.tail _ (.head _))))))) (fun w0 => oq_buildA (stps (⟨sel5 s0 s1 s2 s3 s4, sel5 b2_0 b2_1 b2_2 b2_3 b2_4, sel5 b5_0 b5_1 b5_2 b5_3 b5_4, sel5 b3_0 b3_1 b3_2 b3_3 b3_4⟩ : SS)) Tryz.underlying63 ty62 ty63 rfl (by kernel_rfl)) rfl rfl rfl ?_
            refine WH.step (i := 32) (by kernel_rfl) rfl ?_
            refine WL.f2 ?_
            refine WL.storeS (stps (⟨sel5 s0 s1 s2 s3 s4, sel5 b2_0 b2_1 b2_2 b2_3 b2_4, sel5 b5_0 b5_1 b5_2 b5_3 b5_4, sel5 b3_0 b3_1 b3_2 b3_3 b3_4⟩ : SS)) ty63 rfl rfl (by kernel_rfl) (by kernel_rfl) (Nat.le_of_ble_eq_true rfl) (by kernel_rfl) rfl ?_
            refine WL.nil ?_
            refine WE.toH (.tail _ (.tail _ (.tail _ (.tail _ (.tail _ (.tail _ (.head _))))))) ?_
            refine WH.done (by kernel_rfl) ?_
            refine WE.f7 ?_
            refine WE.f2 ?_
            refine WE.f3 ?_
            refine WE.f4 ?_
            refine WE.f5 ?_
            refine WE.f6 ?_
            refine WE.reg perm_start ?_
            obtain ⟨hst, hs0, hs1, hs2, hs3, hs4⟩ := stack_fr hfr
            refine WE.f5 ?_
            refine WE.f2 ?_
            refine WE.f2 ?_
            refine WE.f4 ?_
            refine WE.f4 ?_
            refine WE.f5 ?_
            refine WE.meet (rb, st, tb, (⟨sel5 s0 s1 s2 s3 s4, sel5 b2_0 b2_1 b2_2 b2_3 b2_4, sel5 b5_0 b5_1 b5_2 b5_3 b5_4, sel5 b3_0 b3_1 b3_2 b3_3 b3_4⟩ : SS)) ?_ ⟨rfl, rfl, rfl, rfl, trivial⟩ (List.Perm.refl _)
            try dsimp only
            exact ⟨hrb, hst, htb, sok_of (cb := cb) (fun i hi => match i, hi with | 0, _ => hs0 | 1, _ => hs1 | 2, _ => hs2 | 3, _ => hs3 | 4, _ => hs4) (fun i hi => match i, hi with | 0, _ => hfr0 | 1, _ => hfr1 | 2, _ => hfr2 | 3, _ => hfr3 | 4, _ => hfr4), fun i hi => match i, hi with | 0, _ => b3_of hfr0 | 1, _ => b3_of hfr1 | 2, _ => b3_of hfr2 | 3, _ => b3_of hfr3 | 4, _ => b3_of hfr4⟩   -- meet 2
        ·
          refine WL.alloc ty63 rfl rfl fun tb htb => ?_
          refine WL.nil ?_
          refine WE.toH (.tail _ (.tail _ (.tail _ (.head _)))) ?_
          refine WH.step (i := 17) (by kernel_rfl) rfl ?_
          refine WL.callA0 (mk2 s2 cb) call28 rfl rfl rfl fun v2_17 N2_17 hR2_17 hN2_17 => ?_
          obtain ⟨b2_2, b5_2, b3_2, rfl, rfl⟩ := hR2_17
          have hfr2 := hN2_17
          refine WL.nil ?_
          refine WE.toH (.tail _ (.tail _ (.tail _ (.tail _ (.head _))))) ?_
          refine WH.step (i := 23) (by kernel_rfl) rfl ?_
          refine WL.callA0 (mk3 s3 cb) call29 rfl rfl rfl fun v2_23 N2_23 hR2_23 hN2_23 => ?_
          obtain ⟨b2_3, b5_3, b3_3, rfl, rfl⟩ := hR2_23
          have hfr3 := hN2_23
          refine WL.nil ?_
          refine WE.toH (.tail _ (.tail _ (.tail _ (.tail _ (.tail _ (.head _)))))) ?_
          refine WH.step (i := 29) (by kernel_rfl) rfl ?_
          refine WL.callA0 (mk4 s4 cb) call30 rfl rfl rfl fun v2_29 N2_29 hR2_29 hN2_29 => ?_
          obtain ⟨b2_4, b5_4, b3_4, rfl, rfl⟩ := hR2_29
          have hfr4 := hN2_29
          refine WL.nil ?_
          refine WE.toH (.tail _ (.tail _ (.tail _ (.tail _ (.tail _ (.tail _ (.head _))))))) ?_
          refine WH.q 30 rfl (.tail _ (.tail _ (.tail _ (.tail _ (.tail _ (.tail _ (.head _))))))) (fun w0 => oq_buildA (stps (⟨sel5 s0 s1 s2 s3 s4, sel5 b2_0 b2_1 b2_2 b2_3 b2_4, sel5 b5_0 b5_1 b5_2 b5_3 b5_4, sel5 b3_0 b3_1 b3_2 b3_3 b3_4⟩ : SS)) Tryz.underlying63 ty62 ty63 rfl (by kernel_rfl)) rfl rfl rfl ?_
          refine WH.step (i := 32) (by kernel_rfl) rfl ?_
          refine WL.f3 ?_
          refine WL.storeS (stps (⟨sel5 s0 s1 s2 s3 s4, sel5 b2_0 b2_1 b2_2 b2_3 b2_4, sel5 b5_0 b5_1 b5_2 b5_3 b5_4, sel5 b3_0 b3_1 b3_2 b3_3 b3_4⟩ : SS)) ty63 rfl rfl (by kernel_rfl) (by kernel_rfl) (Nat.le_of_ble_eq_true rfl) (by kernel_rfl) rfl ?_
          refine WL.nil ?_
          refine WE.toH (.tail _ (.tail _ (.tail _ (.tail _ (.tail _ (.tail _ (.head _))))))) ?_
          refine WH.done (by kernel_rfl) ?_
          refine WE.f7 ?_
          refine WE.f2 ?_
          refine WE.f3 ?_
          refine WE.f4 ?_
          refine WE.f5 ?_
          refine WE.f6 ?_
          refine WE.reg perm_start ?_
          obtain ⟨hst, hs0, hs1, hs2, hs3, hs4⟩ := stack_fr hfr
          refine WE.f5 ?_
          refine WE.f2 ?_
          refine WE.f2 ?_
          refine WE.f4 ?_
          refine WE.f4 ?_
          refine WE.f5 ?_
          refine WE.meet (rb, st, tb, (⟨sel5 s0 s1 s2 s3 s4, sel5 b2_0 b2_1 b2_2 b2_3 b2_4, sel5 b5_0 b5_1 b5_2 b5_3 b5_4, sel5 b3_0 b3_1 b3_2 b3_3 b3_4⟩ : SS)) ?_ ⟨rfl, rfl, rfl, rfl, trivial⟩ (List.Perm.refl _)
          try dsimp only
          exact ⟨hrb, hst, htb, sok_of (cb := cb) (fun i hi => match i, hi with | 0, _ => hs0 | 1, _ => hs1 | 2, _ => hs2 | 3, _ => hs3 | 4, _ => hs4) (fun i hi => match i, hi with | 0, _ => hfr0 | 1, _ => hfr1 | 2, _ => hfr2 | 3, _ => hfr3 | 4, _ => hfr4), fun i hi => match i, hi with | 0, _ => b3_of hfr0 | 1, _ => b3_of hfr1 | 2, _ => b3_of hfr2 | 3, _ => b3_of hfr3 | 4, _ => b3_of hfr4⟩   -- meet 3
      ·
        refine WL.alloc ty63 rfl rfl fun tb htb => ?_
        refine WL.nil ?_
        refine WE.toH (.tail _ (.tail _ (.head _))) ?_
        refine WH.step (i := 11) (by kernel_rfl) rfl ?_
        refine WL.callA0 (mk1 s1 cb) call27 rfl rfl rfl fun v2_11 N2_11 hR2_11 hN2_11 => ?_
        obtain ⟨b2_1, b5_1, b3_1, rfl, rfl⟩ := hR2_11
        have hfr1 := hN2_11
        refine WL.nil ?_
        refine WE.toH (.tail _ (.tail _ (.tail _ (.head _)))) ?_
        refine WH.step (i := 17) (by kernel_rfl) rfl ?_
        refine WL.callA0 (mk2 s2 cb) call28 rfl rfl rfl fun v2_17 N2_17 hR2_17 hN2_17 => ?_
        obtain ⟨b2_2, b5_2, b3_2, rfl, rfl⟩ := hR2_17
        have hfr2 := hN2_17
        refine WL.nil ?_
        refine WE.toH (.tail _ (.tail _ (.tail _ (.tail _ (.head _))))) ?_
        refine WH.step (i := 23) (by kernel_rfl) rfl ?_
        refine WL.callA0 (mk3 s3 cb) call29 rfl rfl rfl fun v2_23 N2_23 hR2_23 hN2_23 => ?_
        obtain ⟨b2_3, b5_3, b3_3, rfl, rfl⟩ := hR2_23
        have hfr3 := hN2_23
        refine WL.nil ?_
        refine WE.toH (.tail _ (.tail _ (.tail _ (.tail _ (.tail _ (.head _)))))) ?_
        refine WH.step (i := 29) (by kernel_rfl) rfl ?_
        refine WL.callA0 (mk4 s4 cb) call30 rfl rfl rfl fun v2_29 N2_29 hR2_29 hN2_29 => ?_
        obtain ⟨b2_4, b5_4, b3_4, rfl, rfl⟩ := hR2_29
        have hfr4 := hN2_29
        refine WL.nil ?_
        refine WE.toH (.tail _ (.tail _ (.tail _ (.tail _ (.tail _ (.tail _ (.head _))))))) ?_
        refine WH.q 30 rfl (.tail _ (.tail _ (.tail _ (.tail _ (.tail _ (.tail _ (.head _))))))) (fun w0 => oq_buildA (stps (⟨sel5 s0 s1 s2 s3 s4, sel5 b2_0 b2_1 b2_2 b2_3 b2_4, sel5 b5_0 b5_1 b5_2 b5_3 b5_4, sel5 b3_0 b3_1 b3_2 b3_3 b3_4⟩ : SS)) Tryz.underlying63 ty62 ty63 rfl (by kernel_rfl)) rfl rfl rfl ?_
        refine WH.step (i := 32) (by kernel_rfl) rfl ?_
        refine WL.f4 ?_
        refine WL.storeS (stps (⟨sel5 s0 s1 s2 s3 s4, sel5 b2_0 b2_1 b2_2 b2_3 b2_4, sel5 b5_0 b5_1 b5_2 b5_3 b5_4, sel5 b3_0 b3_1 b3_2 b3_3 b3_4⟩ : SS)) ty63 rfl rfl (by kernel_rfl) (by kernel_rfl) (Nat.le_of_ble_eq_true rfl) (by kernel_rfl) rfl ?_
        refine WL.nil ?_
        refine WE.toH (.tail _ (.tail _ (.tail _ (.tail _ (.tail _ (.tail _ (.head _))))))) ?_
        refine WH.done (by kernel_rfl) ?_
        refine WE.f7 ?_
        refine WE.f2 ?_
        refine WE.f3 ?_
        refine WE.f4 ?_
        refine WE.f5 ?_
        refine WE.f6 ?_
        refine WE.reg perm_start ?_
        obtain ⟨hst, hs0, hs1, hs2, hs3, hs4⟩ := stack_fr hfr
        refine WE.f5 ?_
        refine WE.f2 ?_
        refine WE.f2 ?_
        refine WE.f4 ?_
        refine WE.f4 ?_
        refine WE.f5 ?_
        refine WE.meet (rb, st, tb, (⟨sel5 s0 s1 s2 s3 s4, sel5 b2_0 b2_1 b2_2 b2_3 b2_4, sel5 b5_0 b5_1 b5_2 b5_3 b5_4, sel5 b3_0 b3_1 b3_2 b3_3 b3_4⟩ : SS)) ?_ ⟨rfl, rfl, rfl, rfl, trivial⟩ (List.Perm.refl _)
        try dsimp only
        exact ⟨hrb, hst, htb, sok_of (cb := cb) (fun i hi => match i, hi with | 0, _ => hs0 | 1, _ => hs1 | 2, _ => hs2 | 3, _ => hs3 | 4, _ => hs4) (fun i hi => match i, hi with | 0, _ => hfr0 | 1, _ => hfr1 | 2, _ => hfr2 | 3, _ => hfr3 | 4, _ => hfr4), fun i hi => match i, hi with | 0, _ => b3_of hfr0 | 1, _ => b3_of hfr1 | 2, _ => b3_of hfr2 | 3, _ => b3_of hfr3 | 4, _ => b3_of hfr4⟩   -- meet 4
    ·
      refine WL.alloc ty63 rfl rfl fun tb htb => ?_
      refine WL.nil ?_
      refine WE.toH (.tail _ (.head _)) ?_
      refine WH.step (i := 5) (by kernel_rfl) rfl ?_
      refine WL.callA0 (mk0 s0 cb) call26 rfl rfl rfl fun v2_5 N2_5 hR2_5 hN2_5 => ?_
      obtain ⟨b2_0, b5_0, b3_0, rfl, rfl⟩ := hR2_5
      have hfr0 := hN2_5
      refine WL.nil ?_
      refine WE.toH (.tail _ (.tail _ (.head _))) ?_
      refine WH.step (i := 11) (by kernel_rfl) rfl ?_
      refine WL.callA0 (mk1 s1 cb) call27 rfl rfl rfl fun v2_11 N2_11 hR2_11 hN2_11 => ?_
      obtain ⟨b2_1, b5_1, b3_1, rfl, rfl⟩ := hR2_11
      have hfr1 := hN2_11
      refine WL.nil ?_
      refine WE.toH (.tail _ (.tail _ (.tail _ (.head _)))) ?_
      refine WH.step (i := 17) (by kernel_rfl) rfl ?_
      refine WL.callA0 (mk2 s2 cb) call28 rfl rfl rfl fun v2_17 N2_17 hR2_17 hN2_17 => ?_
      obtain ⟨b2_2, b5_2, b3_2, rfl, rfl⟩ := hR2_17
      have hfr2 := hN2_17
      refine WL.nil ?_
      refine WE.toH (.tail _ (.tail _ (.tail _ (.tail _ (.head _))))) ?_
      refine WH.step (i := 23) (by kernel_rfl) rfl ?_
      refine WL.callA0 (mk3 s3 cb) call29 rfl rfl rfl fun v2_23 N2_23 hR2_23 hN2_23 => ?_
      obtain ⟨b2_3, b5_3, b3_3, rfl, rfl⟩ := hR2_23
      have hfr3 := hN2_23
      refine WL.nil ?_
      refine WE.toH (.tail _ (.tail _ (.tail _ (.tail _ (.tail _ (.head _)))))) ?_
      refine WH.step (i := 29) (by kernel_rfl) rfl ?_
      refine WL.callA0 (mk4 s4 cb) call30 rfl rfl rfl fun v2_29 N2_29 hR2_29 hN2_29 => ?_
      obtain ⟨b2_4, b5_4, b3_4, rfl, rfl⟩ := hR2_29
      have hfr4 := hN2_29
      refine WL.nil ?_
      refine WE.toH (.tail _ (.tail _ (.tail _ (.tail _ (.tail _ (.tail _ (.head _))))))) ?_
      refine WH.q 30 rfl (.tail _ (.tail _ (.tail _ (.tail _ (.tail _ (.tail _ (.head _))))))) (fun w0 => oq_buildA (stps (⟨sel5 s0 s1 s2 s3 s4, sel5 b2_0 b2_1 b2_2 b2_3 b2_4, sel5 b5_0 b5_1 b5_2 b5_3 b5_4, sel5 b3_0 b3_1 b3_2 b3_3 b3_4⟩ : SS)) Tryz.underlying63 ty62 ty63 rfl (by kernel_rfl)) rfl rfl rfl ?_
      refine WH.step (i := 32) (by kernel_rfl) rfl ?_
      refine WL.f5 ?_
      refine WL.storeS (stps (⟨sel5 s0 s1 s2 s3 s4, sel5 b2_0 b2_1 b2_2 b2_3 b2_4, sel5 b5_0 b5_1 b5_2 b5_3 b5_4, sel5 b3_0 b3_1 b3_2 b3_3 b3_4⟩ : SS)) ty63 rfl rfl (by kernel_rfl) (by kernel_rfl) (Nat.le_of_ble_eq_true rfl) (by kernel_rfl) rfl ?_
      refine WL.nil ?_
      refine WE.toH (.tail _ (.tail _ (.tail _ (.tail _ (.tail _ (.tail _ (.head _))))))) ?_
      refine WH.done (by kernel_rfl) ?_
      refine WE.f7 ?_
      refine WE.f2 ?_
      refine WE.f3 ?_
      refine WE.f4 ?_
      refine WE.f5 ?_
      refine WE.f6 ?_
      refine WE.reg perm_start ?_
      obtain ⟨hst, hs0, hs1, hs2, hs3, hs4⟩ := stack_fr hfr
      refine WE.f5 ?_
      refine WE.f2 ?_
      refine WE.f2 ?_
      refine WE.f4 ?_
      refine WE.f4 ?_
      refine WE.f5 ?_
      refine WE.meet (rb, st, tb, (⟨sel5 s0 s1 s2 s3 s4, sel5 b2_0 b2_1 b2_2 b2_3 b2_4, sel5 b5_0 b5_1 b5_2 b5_3 b5_4, sel5 b3_0 b3_1 b3_2 b3_3 b3_4⟩ : SS)) ?_ ⟨rfl, rfl, rfl, rfl, trivial⟩ (List.Perm.refl _)
      try dsimp only
      exact ⟨hrb, hst, htb, sok_of (cb := cb) (fun i hi => match i, hi with | 0, _ => hs0 | 1, _ => hs1 | 2, _ => hs2 | 3, _ => hs3 | 4, _ => hs4) (fun i hi => match i, hi with | 0, _ => hfr0 | 1, _ => hfr1 | 2, _ => hfr2 | 3, _ => hfr3 | 4, _ => hfr4), fun i hi => match i, hi with | 0, _ => b3_of hfr0 | 1, _ => b3_of hfr1 | 2, _ => b3_of hfr2 | 3, _ => b3_of hfr3 | 4, _ => b3_of hfr4⟩   -- meet 5
  · rintro ⟨rb, st, tb, G⟩ hp
    try dsimp only at hp
    obtain ⟨hrb, hst, htb, hG, hb3⟩ := hp
    show WC _ _ _ _ _ _ ([(0, v), (5, Pt rb 0), (7, Pt st 0), (8, Pt tb 0)]) ([[(rb, .cells #[.nilFunc, .nilFunc, .nilFunc, .nilFunc, .nilFunc, .nilFunc, .nilFunc, .nilFunc, .nilFunc, .nilFunc, .nilFunc, .nilFunc, .nilFunc, .nilFunc, .nilFunc, .nilFunc, .nilFunc, .nilFunc, .nilFunc, .nilFunc, .nilFunc, .nilFunc, .nilFunc, .nilFunc, .nilFunc, .nilFunc, .nilFunc, .nilFunc, .nilFunc, .nilFunc, .nilFunc, .nilFunc, .nilFunc, .nilFunc, .nilFunc] 63 (0, 0))], [(tb, .cells (stps G) 63 (0, 0))], stk st G nmS, All G (fun _ => []), xboxes G cb, A])
    have hI := inv0 (cb := cb) hb3
    refine WC.seq ?_
    refine WC.add0 ?_
    refine WC.region ?_
    refine WL.q (oq_assign rfl) rfl rfl rfl ?_
    refine WL.nil (WE.then_normal (WC.sub (fr' := [(0, _), (5, _), (7, _), (8, _), (9, _)]) ?_ ⟨rfl, rfl, rfl, rfl, rfl, trivial⟩))
    refine WC.seq (WC.seq (WC.region ?_))
    refine WL.q (oq_move rfl) rfl rfl rfl ?_
    refine WL.q (oq_len_rd hr Tryz.underlying41 rfl) rfl rfl rfl ?_
    refine WL.q (oq_move rfl) rfl rfl rfl ?_
    refine WL.nil (WE.then_normal (WC.sub (fr' := [(5, _), (7, _), (8, _), (9, _), (47, _), (48, _), (49, _)]) ?_ ⟨rfl, rfl, rfl, rfl, rfl, rfl, rfl, trivial⟩))
    refine WC.block ?_
    refine WC.f6 ?_
    refine WC.f1 ?_
    refine WC.f6 ?_
    refine WC.f6 ?_
    refine WC.f6 ?_
    refine WC.f6 ?_
    refine WC.f6 ?_
    refine WC.loop (ι := Nat × (Nat → List Nd) × Hp × (List Bool) × Value × Hp) (fun i_ => (fun (i : Nat) (its : Nat → List Nd) (X : Hp) (bs : List Bool) (ve : Value) (E : Hp) => [(5, Pt rb 0), (7, Pt st 0), (8, Pt tb 0), (9, ve), (47, v), (48, I (l.length : Int)), (49, I (i : Int))]) i_.1 i_.2.1 i_.2.2.1 i_.2.2.2.1 i_.2.2.2.2.1 i_.2.2.2.2.2) (fun i_ => (fun (i : Nat) (its : Nat → List Nd) (X : Hp) (bs : List Bool) (ve : Value) (E : Hp) => [[(rb, .cells #[.nilFunc, .nilFunc, .nilFunc, .nilFunc, .nilFunc, .nilFunc, .nilFunc, .nilFunc, .nilFunc, .nilFunc, .nilFunc, .nilFunc, .nilFunc, .nilFunc, .nilFunc, .nilFunc, .nilFunc, .nilFunc, .nilFunc, .nilFunc, .nilFunc, .nilFunc, .nilFunc, .nilFunc, .nilFunc, .nilFunc, .nilFunc, .nilFunc, .nilFunc, .nilFunc, .nilFunc, .nilFunc, .nilFunc, .nilFunc, .nilFunc] 63 (0, 0))], [(tb, .cells (stps G) 63 (0, 0))], stk st G nmS, All G its, X, E, A]) i_.1 i_.2.1 i_.2.2.1 i_.2.2.2.1 i_.2.2.2.2.1 i_.2.2.2.2.2) (fun i_ => (fun (i : Nat) (its : Nat → List Nd) (X : Hp) (bs : List Bool) (ve : Value) (E : Hp) => i ≤ l.length ∧ wst (l.take i) = (ids its, bs) ∧ Inv G w0.heap.size its X ∧ (∀ j, j < 5 → ∀ e, e ∈ xbox G cb j → e ∈ X) ∧ OwS w0.heap.size 4 1 ve E bs.length (boolsV bs)) i_.1 i_.2.1 i_.2.2.1 i_.2.2.2.1 i_.2.2.2.2.1 i_.2.2.2.2.2) (fun i_ => (fun (i : Nat) (its : Nat → List Nd) (X : Hp) (bs : List Bool) (ve : Value) (E : Hp) => l.length - i) i_.1 i_.2.1 i_.2.2.1 i_.2.2.2.1 i_.2.2.2.2.1 i_.2.2.2.2.2) ((0, (fun _ => []), _, [], _, _)) ?_ ⟨rfl, rfl, rfl, rfl, rfl, rfl, rfl, trivial⟩ (List.Perm.refl _) ?_
    · try dsimp only
      exact ⟨by omega, rfl, hI, fun j hj e he => xb_mem G cb j hj e he, OwS.nil _ _ _⟩
    · rintro ⟨i, its, X, bs, ve, E⟩ hp
      try dsimp only at hp
      obtain ⟨hi, hst8, hI, hXb, hoe⟩ := hp
      show WC _ _ _ _ _ _ ([(5, Pt rb 0), (7, Pt st 0), (8, Pt tb 0), (9, ve), (47, v), (48, I (l.length : Int)), (49, I (i : Int))]) ([[(rb, .cells #[.nilFunc, .nilFunc, .nilFunc, .nilFunc, .nilFunc, .nilFunc, .nilFunc, .nilFunc, .nilFunc, .nilFunc, .nilFunc, .nilFunc, .nilFunc, .nilFunc, .nilFunc, .nilFunc, .nilFunc, .nilFunc, .nilFunc, .nilFunc, .nilFunc, .nilFunc, .nilFunc, .nilFunc, .nilFunc, .nilFunc, .nilFunc, .nilFunc, .nilFunc, .nilFunc, .nilFunc, .nilFunc, .nilFunc, .nilFunc, .nilFunc] 63 (0, 0))], [(tb, .cells (stps G) 63 (0, 0))], stk st G nmS, All G its, X, E, A])
      have hlen := (wst_len l i hi).2
      rw [hst8] at hlen
      have hbl : bs.length = i := hlen
      refine WC.seq (WC.region ?_)
      refine WL.q (oq_lss rfl rfl) rfl rfl rfl ?_
      refine WL.nil (WE.then_normal (WC.sub (fr' := [(5, _), (7, _), (8, _), (9, _), (47, _), (48, _), (49, _), (50, _)]) ?_ ⟨rfl, rfl, rfl, rfl, rfl, rfl, rfl, rfl, trivial⟩))
      refine WC.seq ?_
      refine WC.cond rfl (fun q5 => ?_) (fun q5 => ?_)
      ·
        try simp only [Z1, Z2, Z3, Z4, Z5, Z6, Z7, Z8, Z9, Z0] at q5
        refine WC.skip (WE.then_normal (WC.sub (fr' := [(5, _), (7, _), (8, _), (9, _), (47, _), (48, _), (49, _)]) ?_ ⟨rfl, rfl, rfl, rfl, rfl, rfl, rfl, trivial⟩))
        refine WC.seq (WC.block (WC.seq ?_))
        have hlk := lookP_of (all_el hok WO0 (show i < l.length by omega))
        obtain ⟨hk1, hk2, hk3, hk4, hk5⟩ := hlk
        obtain ⟨si, hsi⟩ : ∃ si : Nat, (l.getD i WO0).s = (si : Int) := ⟨_, (Int.toNat_of_nonneg hk1).symm⟩
        have hs5 : si < 5 := by omega
        refine WC.region ?_
        refine WL.q (oq_ixaddr hr Tryz.underlying41 ty40 rfl rfl (by (first | omega | (simp only [List.length_cons, List.length_nil, List.length_append, List.length_drop, List.length_take]; omega)))) rfl rfl rfl ?_
        refine WL.q (oq_loadEl (f := wof) WO0 [_, _, _, _, _] (fun _ => rfl) agg40 ty40 hr (.tail _ (.tail _ (.tail _ (.tail _ (.tail _ (.tail _ (.head _))))))) rfl (by (first | omega | (simp only [List.length_cons, List.length_nil, List.length_append, List.length_drop, List.length_take]; omega))) (by first | exact Int.toNat_natCast _ | exact rfl) rfl) rfl rfl rfl ?_
        refine WL.alloc ty40 rfl rfl fun ob hob => ?_
        refine WL.storeS #[_, _, _, _, _] ty40 rfl rfl rfl rfl (Nat.le_of_ble_eq_true rfl) rfl rfl ?_
        refine WL.nil (WE.then_normal (WC.sub (fr' := [(5, _), (7, _), (8, _), (9, _), (11, _), (47, _), (48, _), (49, _)]) ?_ ⟨rfl, rfl, rfl, rfl, rfl, rfl, rfl, rfl, trivial⟩))
        refine WC.seq (WC.region ?_)
        refine WL.q (oq_assign rfl) rfl rfl rfl ?_
        refine WL.nil (WE.then_normal (WC.sub (fr' := [(5, _), (7, _), (8, _), (9, _), (11, _), (12, _), (47, _), (48, _), (49, _)]) ?_ ⟨rfl, rfl, rfl, rfl, rfl, rfl, rfl, rfl, rfl, trivial⟩))
        refine WC.cut (ι := Unit) (fun _ => [(5, Pt rb 0), (7, Pt st 0), (8, Pt tb 0), (9, ve), (47, v), (48, I (l.length : Int)), (49, I (i : Int)), (11, Pt ob 0), (12, I (if (l.getD i WO0).a then 0 else 1))]) (fun _ => [[(ob, .cells #[I (l.getD i WO0).s, I (l.getD i WO0).k, S (l.getD i WO0).d, S (l.getD i WO0).b, .bool (l.getD i WO0).a] 40 (0, 0))], [(rb, .cells #[.nilFunc, .nilFunc, .nilFunc, .nilFunc, .nilFunc, .nilFunc, .nilFunc, .nilFunc, .nilFunc, .nilFunc, .nilFunc, .nilFunc, .nilFunc, .nilFunc, .nilFunc, .nilFunc, .nilFunc, .nilFunc, .nilFunc, .nilFunc, .nilFunc, .nilFunc, .nilFunc, .nilFunc, .nilFunc, .nilFunc, .nilFunc, .nilFunc, .nilFunc, .nilFunc, .nilFunc, .nilFunc, .nilFunc, .nilFunc, .nilFunc] 63 (0, 0))], [(tb, .cells (stps G) 63 (0, 0))], stk st G nmS, All G its, X, E, A]) (fun _ => True) ?_ ?_
        ·
          refine WC.seq (WC.region ?_)
          refine WL.q (oq_fieldAddr fld40_4 rfl) rfl rfl rfl ?_
          refine WL.q (oq_load flat4 rfl (.head _) (List.mem_singleton.2 rfl) rfl) rfl rfl rfl ?_
          refine WL.nil (WE.then_normal (WC.sub (fr' := [(5, _), (7, _), (8, _), (9, _), (11, _), (12, _), (47, _), (48, _), (49, _), (54, _)]) ?_ ⟨rfl, rfl, rfl, rfl, rfl, rfl, rfl, rfl, rfl, rfl, trivial⟩))
          refine WC.cond rfl (fun q8 => ?_) (fun q8 => ?_)
          ·
            try simp only [Z1, Z2, Z3, Z4, Z5, Z6, Z7, Z8, Z9, Z0] at q8
            refine WC.region ?_
            refine WL.q (oq_assign rfl) rfl rfl rfl ?_
            refine WL.nil ?_
            refine WE.meet () ?_ ⟨rfl, rfl, rfl, rfl, rfl, rfl, rfl, rfl, (gti rfl (by rw [q8]; rfl)), trivial⟩ (List.Perm.refl _)
            try dsimp only
            all_goals trivial   -- meet 0
          ·
            try simp only [Z1, Z2, Z3, Z4, Z5, Z6, Z7, Z8, Z9, Z0] at q8
            refine WC.skip ?_
            refine WE.meet () ?_ ⟨rfl, rfl, rfl, rfl, rfl, rfl, rfl, rfl, (gti rfl (by rw [q8]; rfl)), trivial⟩ (List.Perm.refl _)
            try dsimp only
            all_goals trivial   -- meet 1
        · rintro _ hp
          try dsimp only at hp
          show WC _ _ _ _ _ _ ([(5, Pt rb 0), (7, Pt st 0), (8, Pt tb 0), (9, ve), (47, v), (48, I (l.length : Int)), (49, I (i : Int)), (11, Pt ob 0), (12, I (if (l.getD i WO0).a then 0 else 1))]) ([[(ob, .cells #[I (l.getD i WO0).s, I (l.getD i WO0).k, S (l.getD i WO0).d, S (l.getD i WO0).b, .bool (l.getD i WO0).a] 40 (0, 0))], [(rb, .cells #[.nilFunc, .nilFunc, .nilFunc, .nilFunc, .nilFunc, .nilFunc, .nilFunc, .nilFunc, .nilFunc, .nilFunc, .nilFunc, .nilFunc, .nilFunc, .nilFunc, .nilFunc, .nilFunc, .nilFunc, .nilFunc, .nilFunc, .nilFunc, .nilFunc, .nilFunc, .nilFunc, .nilFunc, .nilFunc, .nilFunc, .nilFunc, .nilFunc, .nilFunc, .nilFunc, .nilFunc, .nilFunc, .nilFunc, .nilFunc, .nilFunc] 63 (0, 0))], [(tb, .cells (stps G) 63 (0, 0))], stk st G nmS, All G its, X, E, A])
          refine WC.seq (WC.region ?_)
          refine WL.q (oq_assign rfl) rfl rfl rfl ?_
          refine WL.nil (WE.then_normal (WC.sub (fr' := [(5, _), (7, _), (8, _), (9, _), (11, _), (12, _), (13, _), (47, _), (48, _), (49, _)]) ?_ ⟨rfl, rfl, rfl, rfl, rfl, rfl, rfl, rfl, rfl, rfl, trivial⟩))
          refine WC.seq (WC.seq (WC.region ?_))
          refine WL.q (oq_fieldAddr fld40_0 rfl) rfl rfl rfl ?_
          refine WL.q (oq_load flat3 rfl (.head _) (List.mem_singleton.2 rfl) rfl) rfl rfl rfl ?_
          refine WL.q (oq_lss rfl rfl) rfl rfl rfl ?_
          refine WL.q (oq_move rfl) rfl rfl rfl ?_
          refine WL.split 58 rfl (fun s11_3 => ?_) (fun s11_3 => ?_)
          ·
            try simp only [Z1, Z2, Z3, Z4, Z5, Z6, Z7, Z8, Z9, Z0] at s11_3
            refine WL.skip rfl rfl rfl ?_
            refine WL.skip rfl rfl rfl ?_
            refine WL.skip rfl rfl rfl ?_
            refine WL.q (oq_pick_t rfl rfl) rfl rfl rfl ?_
            refine WL.nil (WE.then_normal (WC.sub (fr' := [(5, _), (7, _), (8, _), (9, _), (11, _), (12, _), (13, _), (47, _), (48, _), (49, _), (62, _)]) ?_ ⟨rfl, rfl, rfl, rfl, rfl, rfl, rfl, rfl, rfl, rfl, rfl, trivial⟩))
            refine WC.cond_t rfl ?_
            refine WC.seq ?_
            exfalso; omega
          ·
            try simp only [Z1, Z2, Z3, Z4, Z5, Z6, Z7, Z8, Z9, Z0] at s11_3
            refine WL.q (oq_fieldAddr fld40_0 rfl) rfl rfl rfl ?_
            refine WL.q (oq_load flat3 rfl (.head _) (List.mem_singleton.2 rfl) rfl) rfl rfl rfl ?_
            refine WL.q (oq_gtr rfl rfl) rfl rfl rfl ?_
            refine WL.q (oq_pick_f rfl rfl) rfl rfl rfl ?_
            refine WL.nil (WE.then_normal (WC.sub (fr' := [(5, _), (7, _), (8, _), (9, _), (11, _), (12, _), (13, _), (47, _), (48, _), (49, _), (62, _)]) ?_ ⟨rfl, rfl, rfl, rfl, rfl, rfl, rfl, rfl, rfl, rfl, rfl, trivial⟩))
            refine WC.cond rfl (fun q11 => ?_) (fun q11 => ?_)
            ·
              try simp only [Z1, Z2, Z3, Z4, Z5, Z6, Z7, Z8, Z9, Z0] at q11
              refine WC.seq ?_
              exfalso; omega
            ·
              try simp only [Z1, Z2, Z3, Z4, Z5, Z6, Z7, Z8, Z9, Z0] at q11
              refine WC.skip (WE.then_normal (WC.sub (fr' := [(5, _), (7, _), (8, _), (9, _), (11, _), (12, _), (13, _), (47, _), (48, _), (49, _)]) ?_ ⟨rfl, rfl, rfl, rfl, rfl, rfl, rfl, rfl, rfl, rfl, trivial⟩))
              refine WC.seq (WC.region ?_)
              refine WL.q (oq_fieldAddr fld40_0 rfl) rfl rfl rfl ?_
              refine WL.q (oq_load flat3 rfl (.head _) (List.mem_singleton.2 rfl) rfl) rfl rfl rfl ?_
              refine WL.q (oq_ixArrN (i := si) Tryz.underlying63 ty62 (by decide) rfl (gti rfl hsi) (by (first | omega | (simp only [List.length_cons, List.length_nil, List.length_append, List.length_drop, List.length_take]; omega)))) rfl rfl rfl ?_
              refine WL.q (oq_loadS ((stp si (G.sb si) (G.b2 si) (G.b5 si)).toList) agg62 ty62 rfl (.tail _ (.tail _ (.head _))) (List.mem_singleton.2 rfl) (by kernel_rfl) (stps_at G si hs5)) rfl rfl rfl ?_
              refine WL.alloc ty62 rfl rfl fun tt htt => ?_
              refine WL.storeS (stp si (G.sb si) (G.b2 si) (G.b5 si)) ty62 rfl rfl (by kernel_rfl) (by kernel_rfl) (Nat.le_of_ble_eq_true rfl) (by kernel_rfl) rfl ?_
              refine WL.nil (WE.then_normal (WC.sub (fr' := [(5, _), (7, _), (8, _), (9, _), (11, _), (12, _), (13, _), (14, _), (47, _), (48, _), (49, _)]) ?_ ⟨rfl, rfl, rfl, rfl, rfl, rfl, rfl, rfl, rfl, rfl, rfl, trivial⟩))
              refine WC.cut (ι := (Nat → List Nd) × Hp × Value) (fun i_ => (fun (its2 : Nat → List Nd) (X2 : Hp) (w : Value) => [(5, Pt rb 0), (7, Pt st 0), (8, Pt tb 0), (9, ve), (47, v), (48, I (l.length : Int)), (49, I (i : Int)), (13, w)]) i_.1 i_.2.1 i_.2.2) (fun i_ => (fun (its2 : Nat → List Nd) (X2 : Hp) (w : Value) => [[(rb, .cells #[.nilFunc, .nilFunc, .nilFunc, .nilFunc, .nilFunc, .nilFunc, .nilFunc, .nilFunc, .nilFunc, .nilFunc, .nilFunc, .nilFunc, .nilFunc, .nilFunc, .nilFunc, .nilFunc, .nilFunc, .nilFunc, .nilFunc, .nilFunc, .nilFunc, .nilFunc, .nilFunc, .nilFunc, .nilFunc, .nilFunc, .nilFunc, .nilFunc, .nilFunc, .nilFunc, .nilFunc, .nilFunc, .nilFunc, .nilFunc, .nilFunc] 63 (0, 0))], [(tb, .cells (stps G) 63 (0, 0))], stk st G nmS, All G its2, X2, E, A]) i_.1 i_.2.1 i_.2.2) (fun i_ => (fun (its2 : Nat → List Nd) (X2 : Hp) (w : Value) => StepR G w0.heap.size its X (l.getD i WO0) its2 X2 w) i_.1 i_.2.1 i_.2.2) ?_ ?_
              ·
                refine WC.seq (WC.region ?_)
                refine WL.q (oq_fieldAddr fld40_1 rfl) rfl rfl rfl ?_
                refine WL.q (oq_load flat3 rfl (.tail _ (.head _)) (List.mem_singleton.2 rfl) rfl) rfl rfl rfl ?_
                refine WL.nil (WE.then_normal (WC.sub (fr' := [(5, _), (7, _), (8, _), (9, _), (11, _), (12, _), (13, _), (14, _), (47, _), (48, _), (49, _), (71, _)]) ?_ ⟨rfl, rfl, rfl, rfl, rfl, rfl, rfl, rfl, rfl, rfl, rfl, rfl, trivial⟩))
                refine WC.block (WC.seq (WC.region ?_))
                refine WL.q (oq_eql rfl rfl) rfl rfl rfl ?_
                refine WL.q (oq_assign rfl) rfl rfl rfl ?_
                refine WL.nil (WE.then_normal (WC.sub (fr' := [(5, _), (7, _), (8, _), (9, _), (11, _), (12, _), (13, _), (14, _), (47, _), (48, _), (49, _), (71, _), (72, _)]) ?_ ⟨rfl, rfl, rfl, rfl, rfl, rfl, rfl, rfl, rfl, rfl, rfl, rfl, rfl, trivial⟩))
                refine WC.cond rfl (fun q15 => ?_) (fun q15 => ?_)
                ·
                  try simp only [Z1, Z2, Z3, Z4, Z5, Z6, Z7, Z8, Z9, Z0] at q15
                  refine WC.region ?_
                  refine WL.q (oq_fieldAddr fld62_0 rfl) rfl rfl rfl ?_
                  refine WL.q (oq_load flat55 rfl (.head _) (List.mem_singleton.2 rfl) rfl) rfl rfl rfl ?_
                  refine WL.q (oq_fieldAddr fld40_2 rfl) rfl rfl rfl ?_
                  refine WL.q (oq_load flat9 rfl (.tail _ (.head _)) (List.mem_singleton.2 rfl) rfl) rfl rfl rfl ?_
                  refine WL.q (oq_move rfl) rfl rfl rfl ?_
                  refine WL.f6 ?_
                  refine WL.f6 ?_
                  refine WL.callWE (args := [S (l.getD i WO0).d, I (if (l.getD i WO0).a then 0 else 1), Pt (G.b2 si) 0, Pt (G.b5 si) 0]) (fun a w hf => run_enterv (first := []) (vs := [S (l.getD i WO0).d, I (if (l.getD i WO0).a then 0 else 1)]) (cap := [Pt (G.b2 si) 0, Pt (G.b5 si) 0]) (call_cAdd si hs5) rfl rfl hf w) (aAdd hs5 hI (l.getD i WO0).d (l.getD i WO0).a) rfl rfl rfl rfl fun v16_5 Hs16_5 hR16_5 => ?_
                  obtain ⟨its2, X2, rfl, hI2, hX2, hv2⟩ := hR16_5
                  have hS2 := step_of hsi (by unfold wopI; rw [if_pos (by assumption)]) hI2 hX2 hv2
                  refine WL.app2 ?_
                  refine WL.q (oq_assign rfl) rfl rfl rfl ?_
                  refine WL.nil (WE.block_normal ?_)
                  refine WE.f2 ?_
                  refine WE.lose htt ?_
                  refine WE.f2 ?_
                  refine WE.lose hob ?_
                  refine WE.f6 ?_
                  refine WE.f6 ?_
                  refine WE.f3 ?_
                  refine WE.f3 ?_
                  refine WE.f6 ?_
                  refine WE.f6 ?_
                  refine WE.f6 ?_
                  refine WE.meet (_, _, _) ?_ ⟨rfl, rfl, rfl, rfl, rfl, rfl, rfl, rfl, trivial⟩ (List.Perm.refl _)
                  try dsimp only
                  exact hS2   -- meet 0
                ·
                  try simp only [Z1, Z2, Z3, Z4, Z5, Z6, Z7, Z8, Z9, Z0] at q15
                  refine WC.seq (WC.region ?_)
                  refine WL.q (oq_eql rfl rfl) rfl rfl rfl ?_
                  refine WL.q (oq_assign rfl) rfl rfl rfl ?_
                  refine WL.nil (WE.then_normal (WC.sub (fr' := [(5, _), (7, _), (8, _), (9, _), (11, _), (12, _), (13, _), (14, _), (47, _), (48, _), (49, _), (71, _), (80, _)]) ?_ ⟨rfl, rfl, rfl, rfl, rfl, rfl, rfl, rfl, rfl, rfl, rfl, rfl, rfl, trivial⟩))
                  refine WC.cond rfl (fun q17 => ?_) (fun q17 => ?_)
                  ·
                    try simp only [Z1, Z2, Z3, Z4, Z5, Z6, Z7, Z8, Z9, Z0] at q17
                    refine WC.region ?_
                    refine WL.q (oq_fieldAddr fld62_1 rfl) rfl rfl rfl ?_
                    refine WL.q (oq_load flat56 rfl (.head _) (List.mem_singleton.2 rfl) rfl) rfl rfl rfl ?_
                    refine WL.q (oq_fieldAddr fld40_2 rfl) rfl rfl rfl ?_
                    refine WL.q (oq_load flat9 rfl (.tail _ (.head _)) (List.mem_singleton.2 rfl) rfl) rfl rfl rfl ?_
                    refine WL.q (oq_fieldAddr fld40_3 rfl) rfl rfl rfl ?_
                    refine WL.q (oq_load flat9 rfl (.tail _ (.head _)) (List.mem_singleton.2 rfl) rfl) rfl rfl rfl ?_
                    refine WL.q (oq_move rfl) rfl rfl rfl ?_
                    refine WL.f6 ?_
                    refine WL.f6 ?_
                    refine WL.callWE (args := [S (l.getD i WO0).d, S (l.getD i WO0).b, I (if (l.getD i WO0).a then 0 else 1), Pt (G.b2 si) 0, Pt (G.b5 si) 0]) (fun a w hf => run_enterv (first := []) (vs := [S (l.getD i WO0).d, S (l.getD i WO0).b, I (if (l.getD i WO0).a then 0 else 1)]) (cap := [Pt (G.b2 si) 0, Pt (G.b5 si) 0]) (call_cIns si hs5) rfl rfl hf w) (aIns hs5 hI (l.getD i WO0).d (l.getD i WO0).b (l.getD i WO0).a) rfl rfl rfl rfl fun v18_7 Hs18_7 hR18_7 => ?_
                    obtain ⟨its2, X2, rfl, hI2, hX2, hv2⟩ := hR18_7
                    have hS2 := step_of hsi (by unfold wopI; rw [if_neg (by assumption), if_pos (by assumption)]) hI2 hX2 hv2
                    refine WL.app2 ?_
                    refine WL.q (oq_assign rfl) rfl rfl rfl ?_
                    refine WL.nil (WE.block_normal ?_)
                    refine WE.f2 ?_
                    refine WE.lose htt ?_
                    refine WE.f2 ?_
                    refine WE.lose hob ?_
                    refine WE.f6 ?_
                    refine WE.f6 ?_
                    refine WE.f3 ?_
                    refine WE.f3 ?_
                    refine WE.f6 ?_
                    refine WE.f6 ?_
                    refine WE.f6 ?_
                    refine WE.meet (_, _, _) ?_ ⟨rfl, rfl, rfl, rfl, rfl, rfl, rfl, rfl, trivial⟩ (List.Perm.refl _)
                    try dsimp only
                    exact hS2   -- meet 1
                  ·
                    try simp only [Z1, Z2, Z3, Z4, Z5, Z6, Z7, Z8, Z9, Z0] at q17
                    refine WC.seq (WC.region ?_)
                    refine WL.q (oq_eql rfl rfl) rfl rfl rfl ?_
                    refine WL.q (oq_assign rfl) rfl rfl rfl ?_
                    refine WL.nil (WE.then_normal (WC.sub (fr' := [(5, _), (7, _), (8, _), (9, _), (11, _), (13, _), (14, _), (47, _), (48, _), (49, _), (71, _), (90, _)]) ?_ ⟨rfl, rfl, rfl, rfl, rfl, rfl, rfl, rfl, rfl, rfl, rfl, rfl, trivial⟩))
                    refine WC.cond rfl (fun q19 => ?_) (fun q19 => ?_)
                    ·
                      try simp only [Z1, Z2, Z3, Z4, Z5, Z6, Z7, Z8, Z9, Z0] at q19
                      refine WC.region ?_
                      refine WL.q (oq_fieldAddr fld62_2 rfl) rfl rfl rfl ?_
                      refine WL.q (oq_load flat57 rfl (.head _) (List.mem_singleton.2 rfl) rfl) rfl rfl rfl ?_
                      refine WL.q (oq_fieldAddr fld40_3 rfl) rfl rfl rfl ?_
                      refine WL.q (oq_load flat9 rfl (.tail _ (.head _)) (List.mem_singleton.2 rfl) rfl) rfl rfl rfl ?_
                      refine WL.q (oq_fieldAddr fld40_2 rfl) rfl rfl rfl ?_
                      refine WL.q (oq_load flat9 rfl (.tail _ (.head _)) (List.mem_singleton.2 rfl) rfl) rfl rfl rfl ?_
                      refine WL.f6 ?_
                      refine WL.f6 ?_
                      refine WL.callWE (args := [S (l.getD i WO0).b, S (l.getD i WO0).d, Pt (G.b2 si) 0, Pt (G.b5 si) 0]) (fun a w hf => run_enterv (first := []) (vs := [S (l.getD i WO0).b, S (l.getD i WO0).d]) (cap := [Pt (G.b2 si) 0, Pt (G.b5 si) 0]) (call_cSwp si hs5) rfl rfl hf w) (aSwp hs5 hI (l.getD i WO0).d (l.getD i WO0).b) rfl rfl rfl rfl fun v20_6 Hs20_6 hR20_6 => ?_
                      obtain ⟨its2, X2, rfl, hI2, hX2, hv2⟩ := hR20_6
                      have hS2 := step_of hsi (by unfold wopI; rw [if_neg (by assumption), if_neg (by assumption), if_pos (by assumption)]) hI2 hX2 hv2
                      refine WL.app2 ?_
                      refine WL.q (oq_assign rfl) rfl rfl rfl ?_
                      refine WL.nil (WE.block_normal ?_)
                      refine WE.f2 ?_
                      refine WE.lose htt ?_
                      refine WE.f2 ?_
                      refine WE.lose hob ?_
                      refine WE.f6 ?_
                      refine WE.f6 ?_
                      refine WE.f3 ?_
                      refine WE.f3 ?_
                      refine WE.f6 ?_
                      refine WE.f6 ?_
                      refine WE.f6 ?_
                      refine WE.meet (_, _, _) ?_ ⟨rfl, rfl, rfl, rfl, rfl, rfl, rfl, rfl, trivial⟩ (List.Perm.refl _)
                      try dsimp only
                      exact hS2   -- meet 2
                    ·
                      try simp only [Z1, Z2, Z3, Z4, Z5, Z6, Z7, Z8, Z9, Z0] at q19
                      refine WC.seq (WC.region ?_)
                      refine WL.q (oq_eql rfl rfl) rfl rfl rfl ?_
                      refine WL.q (oq_assign rfl) rfl rfl rfl ?_
                      refine WL.nil (WE.then_normal (WC.sub (fr' := [(5, _), (7, _), (8, _), (9, _), (11, _), (13, _), (14, _), (47, _), (48, _), (49, _), (71, _), (99, _)]) ?_ ⟨rfl, rfl, rfl, rfl, rfl, rfl, rfl, rfl, rfl, rfl, rfl, rfl, trivial⟩))
                      refine WC.cond rfl (fun q21 => ?_) (fun q21 => ?_)
                      ·
                        try simp only [Z1, Z2, Z3, Z4, Z5, Z6, Z7, Z8, Z9, Z0] at q21
                        refine WC.region ?_
                        refine WL.q (oq_fieldAddr fld62_3 rfl) rfl rfl rfl ?_
                        refine WL.q (oq_load flat58 rfl (.head _) (List.mem_singleton.2 rfl) rfl) rfl rfl rfl ?_
                        refine WL.q (oq_fieldAddr fld40_2 rfl) rfl rfl rfl ?_
                        refine WL.q (oq_load flat9 rfl (.tail _ (.head _)) (List.mem_singleton.2 rfl) rfl) rfl rfl rfl ?_
                        refine WL.f6 ?_
                        refine WL.f6 ?_
                        refine WL.callWE (args := [S (l.getD i WO0).d, Pt (G.b2 si) 0]) (fun a w hf => run_enterv (first := []) (vs := [S (l.getD i WO0).d]) (cap := [Pt (G.b2 si) 0]) (call_cRem si hs5) rfl rfl hf w) (aRem hs5 hI (l.getD i WO0).d) rfl rfl rfl rfl fun v22_4 Hs22_4 hR22_4 => ?_
                        obtain ⟨its2, X2, rfl, hI2, hX2, hv2⟩ := hR22_4
                        have hS2 := step_of hsi (by unfold wopI; rw [if_neg (by assumption), if_neg (by assumption), if_neg (by assumption), if_pos (by assumption)]) hI2 hX2 hv2
                        refine WL.app2 ?_
                        refine WL.q (oq_assign rfl) rfl rfl rfl ?_
                        refine WL.nil (WE.block_normal ?_)
                        refine WE.f2 ?_
                        refine WE.lose htt ?_
                        refine WE.f2 ?_
                        refine WE.lose hob ?_
                        refine WE.f6 ?_
                        refine WE.f6 ?_
                        refine WE.f3 ?_
                        refine WE.f3 ?_
                        refine WE.f6 ?_
                        refine WE.f6 ?_
                        refine WE.f6 ?_
                        refine WE.meet (_, _, _) ?_ ⟨rfl, rfl, rfl, rfl, rfl, rfl, rfl, rfl, trivial⟩ (List.Perm.refl _)
                        try dsimp only
                        exact hS2   -- meet 3
                      ·
                        try simp only [Z1, Z2, Z3, Z4, Z5, Z6, Z7, Z8, Z9, Z0] at q21
                        refine WC.seq (WC.region ?_)
                        refine WL.q (oq_eql rfl rfl) rfl rfl rfl ?_
                        refine WL.q (oq_assign rfl) rfl rfl rfl ?_
                        refine WL.nil (WE.then_normal (WC.sub (fr' := [(5, _), (7, _), (8, _), (9, _), (13, _), (14, _), (47, _), (48, _), (49, _), (106, _)]) ?_ ⟨rfl, rfl, rfl, rfl, rfl, rfl, rfl, rfl, rfl, rfl, trivial⟩))
                        refine WC.cond rfl (fun q23 => ?_) (fun q23 => ?_)
                        ·
                          try simp only [Z1, Z2, Z3, Z4, Z5, Z6, Z7, Z8, Z9, Z0] at q23
                          refine WC.region ?_
                          refine WL.q (oq_fieldAddr fld62_4 rfl) rfl rfl rfl ?_
                          refine WL.q (oq_load flat1 rfl (.head _) (List.mem_singleton.2 rfl) rfl) rfl rfl rfl ?_
                          refine WL.f6 ?_
                          refine WL.f6 ?_
                          refine WL.callWE (args := [Pt (G.sb si) 0]) (fun a w hf => run_enterv (first := [Pt (G.sb si) 0]) (vs := []) (cap := []) (call_fClear si hs5) rfl rfl hf w) (aClr hs5 hI) rfl rfl rfl rfl fun v24_2 Hs24_2 hR24_2 => ?_
                          obtain ⟨w2, ⟨its2, X2, rfl, hI2, hX2, hv2⟩, rfl⟩ := hR24_2
                          have hS2 := step_of hsi (by unfold wopI; rw [if_neg (by assumption), if_neg (by assumption), if_neg (by assumption), if_neg (by assumption)]) hI2 hX2 hv2
                          refine WL.app2 ?_
                          refine WL.nil (WE.block_normal ?_)
                          refine WE.f2 ?_
                          refine WE.lose htt ?_
                          refine WE.f2 ?_
                          refine WE.lose hob ?_
                          refine WE.f6 ?_
                          refine WE.f6 ?_
                          refine WE.f3 ?_
                          refine WE.f3 ?_
                          refine WE.f6 ?_
                          refine WE.f6 ?_
                          refine WE.f6 ?_
                          refine WE.meet (_, _, _) ?_ ⟨rfl, rfl, rfl, rfl, rfl, rfl, rfl, rfl, trivial⟩ (List.Perm.refl _)
                          try dsimp only
                          exact hS2   -- meet 4
                        ·
                          try simp only [Z1, Z2, Z3, Z4, Z5, Z6, Z7, Z8, Z9, Z0] at q23
                          first | contradiction | (exfalso; omega) | (exfalso; simp_all; done)
              · rintro ⟨its2, X2, w⟩ hp
                try dsimp only at hp
                show WC _ _ _ _ _ _ ([(5, Pt rb 0), (7, Pt st 0), (8, Pt tb 0), (9, ve), (47, v), (48, I (l.length : Int)), (49, I (i : Int)), (13, w)]) ([[(rb, .cells #[.nilFunc, .nilFunc, .nilFunc, .nilFunc, .nilFunc, .nilFunc, .nilFunc, .nilFunc, .nilFunc, .nilFunc, .nilFunc, .nilFunc, .nilFunc, .nilFunc, .nilFunc, .nilFunc, .nilFunc, .nilFunc, .nilFunc, .nilFunc, .nilFunc, .nilFunc, .nilFunc, .nilFunc, .nilFunc, .nilFunc, .nilFunc, .nilFunc, .nilFunc, .nilFunc, .nilFunc, .nilFunc, .nilFunc, .nilFunc, .nilFunc] 63 (0, 0))], [(tb, .cells (stps G) 63 (0, 0))], stk st G nmS, All G its2, X2, E, A])
                have hS2 := hp
                have hI2 := hS2.1
                refine WC.region ?_
                refine WL.q (oq_move rfl) rfl rfl rfl ?_
                refine WL.q (oq_move rfl) rfl rfl rfl ?_
                refine WL.q (oq_ineq Tryz.underlying93 rfl (hS2.nil)) rfl rfl rfl ?_
                refine WL.f5 ?_
                refine WL.append1 hoe Tryz.underlying30 ty4 rfl (by decide) (fun _ => rfl) rfl rfl (by unfold maxLen; omega) (by omega) rfl rfl (fun _ => rfl) rfl fun v25 A25 u25 ho25 hne25 => ?_
                refine WL.q (oq_assign rfl) rfl rfl rfl ?_
                refine WL.nil (WE.block_normal (WE.then_normal (WC.sub (fr' := [(5, _), (7, _), (8, _), (9, _), (47, _), (48, _), (49, _)]) ?_ ⟨rfl, rfl, rfl, rfl, rfl, rfl, rfl, trivial⟩)))
                refine WC.region ?_
                refine WL.q (oq_add rfl rfl (by rw [i64_lo, i64_hi]; (first | omega | (simp only [List.length_cons, List.length_nil, List.length_append, List.length_drop, List.length_take]; omega)))) rfl rfl rfl ?_
                refine WL.q (oq_move rfl) rfl rfl rfl ?_
                refine WL.nil ?_
                refine WE.f6 ?_
                refine WE.f1 ?_
                refine WE.f6 ?_
                refine WE.f6 ?_
                refine WE.f6 ?_
                refine WE.f6 ?_
                refine WE.f6 ?_
                refine WE.again (i + 1, its2, X2, bs ++ [!nilI w], _, _) ?_ ?_ ⟨rfl, rfl, rfl, rfl, rfl, rfl, rfl, trivial⟩ (List.Perm.refl _)
                · try dsimp only   -- again 0
                  exact ⟨by omega, by rw [wst_next (by omega), hst8]; exact hS2.next, hI2, fun j hj e he => hS2.2.1 e (hXb j hj e he), by have := ho25; simpa [boolsV] using this⟩
                · (try dsimp only); omega
      ·
        try simp only [Z1, Z2, Z3, Z4, Z5, Z6, Z7, Z8, Z9, Z0] at q5
        refine WC.exit (WE.then_exit (WE.then_exit (WE.block_same (WE.then_normal (WC.sub (fr' := [(5, _), (7, _), (8, _), (9, _)]) ?_ ⟨rfl, rfl, rfl, rfl, trivial⟩)))))
        refine WC.seq ?_
        refine WC.tailM (pl := [_]) (ql := [_, _, _]) (tl := [_, _]) [2] [0, 1, 3] 4 [5] (by kernel_rfl) (by kernel_rfl) (by kernel_rfl) (by kernel_rfl) (by kernel_rfl) (by kernel_rfl) (by decide) rfl rfl rfl (by decide) (by repeat (first | with_reducible exact QOk.body | with_reducible apply QOk.then | with_reducible apply QOk.block | exact QOk.body | apply QOk.then | apply QOk.block)) ?_
        refine WM.q (fun w0 => oq_move rfl) rfl rfl rfl ?_
        refine WM.nil ?_
        refine WY.q (oq_move rfl) rfl rfl rfl ?_
        refine WY.q (oq_loadS ((stps G).toList) agg63 ty63 rfl (.tail _ (.head _)) (List.mem_singleton.2 rfl) (by kernel_rfl) (by kernel_rfl)) rfl rfl rfl ?_
        refine WY.q (oq_assign rfl) rfl rfl rfl ?_
        refine WY.nil ?_
        refine WL.storeS (stps G) ty63 rfl rfl (by kernel_rfl) (by kernel_rfl) (Nat.le_of_ble_eq_true rfl) (by kernel_rfl) rfl ?_
        refine WL.q (oq_assign rfl) rfl rfl rfl ?_
        refine WL.nil (WE.then_normal (WC.sub (fr' := [(4, _), (5, _), (6, _)]) ?_ ⟨rfl, rfl, rfl, trivial⟩))
        refine WC.ret ?_
        refine WE.endDA (.inl rfl) (rs3 Tryz.results20 (rv_tmp rfl) (rv_cellS (stps G).toList agg63 ty63 rfl (.head _) (List.mem_singleton.2 rfl) (by kernel_rfl) (by kernel_rfl)) (rv_tmp rfl)) (dr_lose hrb (dr_lose htb (dr_cat (dr_cat (dr_cat dr_refl))))) (fresh_cat (fresh_cat (fresh_cat (fresh1 hst) ((all_fresh hG hI))) (hI.1)) (hoe.fresh)) ?_
        -- end 0
        have hi2 : i = l.length := by omega
        rw [hi2, List.take_length] at hst8
        refine ⟨st, G, its, X, E, ve, by rw [Array.toArray_toList], rfl, by rw [hst8], by rw [hst8]; exact hoe.rd, hXb, fun i hi y hy => (hI.2 i y hy).2⟩

end S9
end Go.Proofs.YtclafiglpcjhdaaGreat
