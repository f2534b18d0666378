/- The walk of the reading of a decision diagram, with its recovering. -/
import Derived.Test.YtkdahfnedlijgaaD0
import Derived.Test.YtkdahfnedlijgaaVF
namespace Go.Proofs.Ytkdahfnedlijgaa
open Go Go.RowKit V L2 D0
set_option linter.unusedSimpArgs false
set_option linter.unusedVariables false
set_option maxRecDepth 10000
namespace D1
theorem call9 : Callable Try.prog 9 := ⟨_, Try.func9, rfl, by kernel_rfl⟩
theorem call10 : Callable Try.prog 10 := ⟨_, Try.func10, rfl, by kernel_rfl⟩
theorem flat21 : Flat Try.prog 21 := ⟨_, Try.underlying21, by simp⟩
theorem flat22 : Flat Try.prog 22 := ⟨_, Try.underlying22, by simp⟩
theorem ty3 : Ty Try.prog 3 (.int .i64 0) 1 8 := ty_of (by kernel_rfl)
theorem ty21 : Ty Try.prog 21 (.int .i32 0) 1 4 := ty_of (by kernel_rfl)

theorem rec_ret {w0 w : World} {H : List Hp} {br : Nat} {r : Int} (hw : St w0 ([(br, .cells #[.int .i32 r] 21 (0,0))] :: H).flatten w) :
  CallsD Try.prog 9 #[Pt br 0] .returning w fun e u' w' => e = .returned (.tuple #[]) ∧ u' = .returning ∧ St w0 ([(br, .cells #[.int .i32 r] 21 (0,0))] :: H).flatten w' := by
  refine callsD_of_wpS Try.func9 rfl fun c₀ cs hm => ?_
  refine wpS_seq (wpS_region ?_)
  refine (?_ : WS Try.prog 3 w0 _ _ [0, 1] [(0, Pt br 0)] (c₀ :: cs) ([(br, .cells #[.int .i32 r] 21 (0,0))] :: H)) _ _ (args_fit (args := [Pt br 0]) rfl) hw
  refine WS.recover0 rfl rfl (recoverD_none hm) ?_
  refine WS.q (oq_ineq Try.underlying20 rfl (.inl rfl)) rfl rfl rfl rfl ?_
  refine WS.cond (b := false) rfl ?_
  refine WC.skip ?_
  exact WE.endS (.inr rfl) (by rw [← hm]) (res0 Try.results9) fun w hw => ⟨rfl, rfl, hw⟩
theorem rec_pan {w0 w : World} {H : List Hp} {br : Nat} {r : Int} {t : TypeId} {v : Value} (hw : St w0 ([(br, .cells #[.int .i32 r] 21 (0,0))] :: H).flatten w) :
  CallsD Try.prog 9 #[Pt br 0] (.panicking (PE t v)) w fun e u' w' => e = .returned (.tuple #[]) ∧ u' = .panicking [{ v := .iface t v, recovered := true }] ∧ St w0 ([(br, .cells #[.int .i32 0] 21 (0,0))] :: H).flatten w' := by
  refine callsD_of_wpS Try.func9 rfl fun c₀ cs hm => ?_
  refine wpS_seq (wpS_region ?_)
  refine (?_ : WS Try.prog 3 w0 _ _ [0, 1] [(0, Pt br 0)] (c₀ :: cs) ([(br, .cells #[.int .i32 r] 21 (0,0))] :: H)) _ _ (args_fit (args := [Pt br 0]) rfl) hw
  refine WS.recover rfl rfl (recoverD_some hm) ?_
  refine WS.q (oq_ineq Try.underlying20 rfl (.inr ⟨_, _, rfl⟩)) rfl rfl rfl rfl ?_
  refine WS.cond (b := true) rfl ?_
  refine WC.region ?_
  refine WL.store ty21 rfl rfl rfl (by simp) (by simp) rfl ?_
  refine WL.nil ?_
  exact WE.endS (.inr rfl) rfl (res0 Try.results9) fun w hw => ⟨rfl, rfl, hw⟩
theorem drop4 {w0 w : World} {A : Hp} {b1 b2 b3 b4 : Nat} {o1 o2 o3 o4 : Obj} (h1 : w0.heap.size ≤ b1) (h2 : w0.heap.size ≤ b2) (h3 : w0.heap.size ≤ b3) (h4 : w0.heap.size ≤ b4) (hw : St w0 ([[(b1, o1)], [(b2, o2)], [(b3, o3)], [(b4, o4)], A] : List Hp).flatten w) : St w0 A w :=
  St.drop (N := [(b1, o1), (b2, o2), (b3, o3), (b4, o4)]) (by simpa using hw) fun b o hb => .inl (by simp at hb; omega)
/-- given.example/pub-tinwright/impl.EDecide -/
theorem edecide (vn vt : Value) (A : Hp) (ns : List Int) (ts : List Bool) (hrn : RdS 1 vn A ns.length (intsV .i32 ns)) (hrt : RdS 1 vt A ts.length (boolsV ts)) (hl : ns.length ≤ 600) (hns : ∀ z ∈ ns, -100000000 ≤ z ∧ z ≤ 2147483647) (root : Int) (hroot : -100000000 ≤ root ∧ root ≤ 2147483647) : FnR Try.prog 6 [vn, .int .i32 root, vt] A (.int .i32 (edec ns ts ns.length root)) := by
  obtain ⟨p1, c1, rfl⟩ := hrn.shape
  obtain ⟨p2, c2, rfl⟩ := hrt.shape
  refine FnR.enterD (n := 13) Try.func6 rfl rfl fun w0 => ?_
  refine WC.sub (fr' := [(0, _), (1, _), (2, _)]) ?_ ⟨rfl, rfl, rfl, trivial⟩
  refine WC.seq ?_
  refine WC.region ?_
  refine WL.box rfl rfl rfl fun b0_0 hb0_0 => ?_
  refine WL.box rfl rfl rfl fun b0_1 hb0_1 => ?_
  refine WL.alloc ty21 rfl rfl fun b0_2 hb0_2 => ?_
  refine WL.nil ?_
  refine WE.then_normal ?_
  refine WC.sub (fr' := [(1, _), (3, _), (5, _), (6, _)]) ?_ ⟨rfl, rfl, rfl, rfl, trivial⟩
  refine WC.seq ?_
  refine WC.region ?_
  refine WL.q (oq_makeFn rfl) rfl rfl rfl ?_
  refine WL.defer (first := []) rfl rfl rfl ?_
  refine WL.nil ?_
  refine WE.then_normal ?_
  refine WC.sub (fr' := [(1, _), (3, _), (5, _), (6, _)]) ?_ ⟨rfl, rfl, rfl, rfl, trivial⟩
  refine WC.seq ?_
  refine WC.region ?_
  refine WL.alloc ty3 rfl rfl fun b2_0 hb2_0 => ?_
  refine WL.store ty3 rfl rfl rfl (by decide) (by simp) rfl ?_
  refine WL.nil ?_
  refine WE.then_normal ?_
  refine WC.sub (fr' := [(1, _), (3, _), (5, _), (6, _), (7, _)]) ?_ ⟨rfl, rfl, rfl, rfl, rfl, trivial⟩
  refine WC.seq ?_
  refine WC.region ?_
  refine WL.q (oq_load flat22 rfl (.tail _ (.tail _ (.tail _ (.head _)))) (List.mem_singleton.2 rfl) rfl) rfl rfl rfl ?_
  refine WL.q (oq_move rfl) rfl rfl rfl ?_
  refine WL.q (oq_makeFn rfl) rfl rfl rfl ?_
  refine WL.f4 ?_
  refine WL.f3 ?_
  refine WL.f4 ?_
  refine WL.f3 ?_
  refine WL.callG (first := []) (vs := [_, .int .i32 root, _]) (cap := []) (evalu _ b2_0 b0_0 b0_1 _ _ A ns ts hrn hrt hl hns root hroot) call10 rfl rfl rfl rfl rfl (fun v3_3 Hs3_3 hR3_3 => ?_) (fun Hs3_3 hR3_3 pt pv => ?_)
  ·
    obtain ⟨rfl, a, rfl⟩ := hR3_3
    refine WL.app4 ?_
    refine WL.f4 ?_
    refine WL.store ty21 rfl rfl rfl (by decide) (by simp) rfl ?_
    refine WL.nil ?_
    refine WE.then_normal ?_
    refine WC.sub (fr' := [(6, _)]) ?_ ⟨rfl, trivial⟩
    refine WC.ret ?_
    -- end 0
    refine WE.deferred (args := []) (cap := [Pt b0_2 0]) (.inl rfl) call9 fun a w hf hw => ?_
    refine (rec_ret hw).mono fun e u w2 h => ?_
    obtain ⟨rfl, rfl, hw2⟩ := h
    exact ⟨_, rfl, rfl, _, rs1 Try.results6 (rv_cell flat21 rfl (.head _) (List.mem_singleton.2 rfl) rfl) a w2 hf hw2, rfl, drop4 hb0_2 hb2_0 hb0_0 hb0_1 hw2⟩
  ·
    obtain ⟨hz, a, rfl⟩ := hR3_3
    refine WE.app4 ?_
    refine WE.then_panic ?_
    -- panic 0
    refine WE.f4 ?_
    refine WE.deferredP (args := []) (cap := [Pt b0_2 0]) call9 fun a w hf hw => ?_
    refine (rec_pan hw).mono fun e u w2 h => ?_
    obtain ⟨rfl, rfl, hw2⟩ := h
    exact ⟨_, rfl, rfl, _, rs1 Try.results6 (rv_cell flat21 rfl (.head _) (List.mem_singleton.2 rfl) rfl) a w2 hf hw2, by rw [hz]; rfl, drop4 hb0_2 hb2_0 hb0_0 hb0_1 hw2⟩

end D1
end Go.Proofs.Ytkdahfnedlijgaa
