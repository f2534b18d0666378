/- Walks of a cache: what is asked for, what is put again. -/
import Derived.Test.YtjmlifpngnbomaaQ
import Derived.Test.YtjmlifpngnbomaaQ1
namespace Go.Proofs.Ytjmlifpngnbomaa
open Go Go.RowKit V Q0 Q1
set_option linter.unusedSimpArgs false
set_option linter.unusedVariables false
set_option maxRecDepth 10000
namespace Q2
theorem call14 : Callable Try.prog 14 := ⟨_, Try.func14, rfl, by kernel_rfl⟩
theorem call36 : Callable Try.prog 36 := ⟨_, Try.func36, rfl, by kernel_rfl⟩
theorem call37 : Callable Try.prog 37 := ⟨_, Try.func37, rfl, by kernel_rfl⟩
theorem call38 : Callable Try.prog 38 := ⟨_, Try.func38, rfl, by kernel_rfl⟩
theorem call39 : Callable Try.prog 39 := ⟨_, Try.func39, rfl, by kernel_rfl⟩
theorem call40 : Callable Try.prog 40 := ⟨_, Try.func40, rfl, by kernel_rfl⟩
theorem flat3 : Flat Try.prog 3 := ⟨_, Try.underlying3, by simp⟩
theorem flat20 : Flat Try.prog 20 := ⟨_, Try.underlying20, by simp⟩
theorem flat42 : Flat Try.prog 42 := ⟨_, Try.underlying42, by simp⟩
theorem flat43 : Flat Try.prog 43 := ⟨_, Try.underlying43, by simp⟩
theorem ty3 : Ty Try.prog 3 (.int .i64 0) 1 8 := ty_of (by kernel_rfl)
theorem ty20 : Ty Try.prog 20 .nilIface 1 16 := ty_of (by kernel_rfl)
theorem ty42 : Ty Try.prog 42 (.map none) 1 8 := ty_of (by kernel_rfl)
theorem ty43 : Ty Try.prog 43 (.pointer none) 1 8 := ty_of (by kernel_rfl)
theorem ty46 : Ty Try.prog 46 (.agg #[(.map none), (.int .i64 0), (.pointer none)]) 3 24 := ty_of (by kernel_rfl)
theorem ty49 : Ty Try.prog 49 (.pointer none) 1 8 := ty_of (by kernel_rfl)
theorem ty74 : Ty Try.prog 74 (.agg #[.nilIface, .nilIface]) 2 32 := ty_of (by kernel_rfl)
theorem conc41 : Conc Try.prog 41 := ⟨_, Try.underlying41, by simp⟩
theorem conc75 : Conc Try.prog 75 := ⟨_, Try.underlying75, by simp⟩
theorem str46 : Str Try.prog 46 #[(0, 1), (1, 1), (2, 1)] := ⟨_, Try.underlying46, fun w => by kernel_rfl⟩
theorem str74 : Str Try.prog 74 #[(0, 1), (1, 1)] := ⟨_, Try.underlying74, fun w => by kernel_rfl⟩
theorem fld46_0 : Fld Try.prog 46 0 0 42 := fld_of Try.underlying46 rfl rfl rfl ty42 (by decide)
theorem fld46_1 : Fld Try.prog 46 1 1 3 := fld_of Try.underlying46 rfl rfl rfl ty3 (by decide)
theorem fld46_2 : Fld Try.prog 46 2 2 43 := fld_of Try.underlying46 rfl rfl rfl ty43 (by decide)
theorem fld51_3 : Fld Try.prog 51 3 3 20 := fld_of Try.underlying51 rfl rfl rfl ty20 (by decide)
theorem fld74_0 : Fld Try.prog 74 0 0 20 := fld_of Try.underlying74 rfl rfl rfl ty20 (by decide)
theorem fld74_1 : Fld Try.prog 74 1 1 20 := fld_of Try.underlying74 rfl rfl rfl ty20 (by decide)
/-- (*given.example/pub-tinwright/pub/smithy/container/private/cache/lru.lru).Get -/
theorem cgetHit (base lb mb bl cap : Nat) (nx pv : Nat → Nat) (vl : Nat → Value) (ms : List (List UInt8 × Value × Nat)) (clk : Nat) (hcap : cap ≤ 100000) (A B : List It) (it : It) (h : Cinv base bl cap (A ++ it :: B) nx pv vl ms) : FnW Try.prog 34 [Pt lb 0, KS it.k] base [LR lb mb bl (cap : Int), MG KS mb ms clk, LG 51 53 bl (((A ++ it :: B)).map It.e) nx pv vl (((A ++ it :: B)).length : Int), EG ((A ++ it :: B))] (fun v Hs => v = .tuple #[KS it.v, .bool true] ∧ ∃ nx2 pv2, Hs = [LR lb mb bl (cap : Int), MG KS mb ms clk, [(it.s, .cells #[KS it.k, KS it.v] 74 (0, 0))], EG (A ++ B), LG 51 53 bl ((A ++ it :: B).map It.e) nx2 pv2 vl ((A ++ it :: B).length : Int)] ∧ Cinv base bl cap ({ it with v := it.v } :: (A ++ B)) nx2 pv2 vl ms) := by
  have hrg := h.rg
  have hmm : ∀ x, x ∈ A.map It.e ++ it.e :: B.map It.e → x ∈ (A ++ it :: B).map It.e := fun x hx => by rw [List.map_append, List.map_cons]; exact hx
  have hvl := h.vls it (by simp)
  have hbe : it.e ≠ bl := fun e => by have := (List.nodup_cons.1 hrg.nd).1; rw [e] at this; exact this (by simp)
  have hmem : it.e ∈ bl :: (A ++ it :: B).map It.e := by simp
  refine FnW.enter (n := 33) Try.func34 rfl rfl fun w0 R0 hbase => ?_
  subst hbase
  show WC _ _ _ _ _ _ _ ([LR lb mb bl (cap : Int), MG KS mb ms clk, LG 51 53 bl (((A ++ it :: B)).map It.e) nx pv vl (((A ++ it :: B)).length : Int), EG ((A ++ it :: B)), R0])
  refine WC.sub (fr' := [(0, _), (1, _)]) ?_ ⟨rfl, rfl, trivial⟩
  refine WC.seq ?_
  refine WC.region ?_
  refine WL.q (oq_assign rfl) rfl rfl rfl ?_
  refine WL.q (oq_assign rfl) rfl rfl rfl ?_
  refine WL.nil ?_
  refine WE.then_normal ?_
  refine WC.sub (fr' := [(0, _), (1, _)]) ?_ ⟨rfl, rfl, trivial⟩
  refine WC.seq ?_
  refine WC.region ?_
  refine WL.q (oq_move rfl) rfl rfl rfl ?_
  refine WL.q (oq_nilCheck rfl) rfl rfl rfl ?_
  refine WL.q (oq_fieldAddr fld46_0 rfl) rfl rfl rfl ?_
  refine WL.q (oq_load flat42 rfl (.head _) (List.mem_singleton.2 rfl) rfl) rfl rfl rfl ?_
  refine WL.q (oq_move rfl) rfl rfl rfl ?_
  refine WL.q (oq_lookup (Pt it.e 0) (true) Try.underlying42 kOk ty49 rfl rfl (.tail _ (.head _)) (.inl ⟨h.hit, rfl⟩)) rfl rfl rfl ?_
  refine WL.q (oq_move rfl) rfl rfl rfl ?_
  refine WL.q (oq_extract rfl rfl) rfl rfl rfl ?_
  refine WL.q (oq_extract rfl rfl) rfl rfl rfl ?_
  refine WL.q (oq_assign rfl) rfl rfl rfl ?_
  refine WL.q (oq_assign rfl) rfl rfl rfl ?_
  refine WL.nil ?_
  refine WE.then_normal ?_
  refine WC.sub (fr' := [(0, _), (6, _), (7, _)]) ?_ ⟨rfl, rfl, rfl, trivial⟩
  refine WC.seq ?_
  refine WC.seq ?_
  refine WC.region ?_
  refine WL.q (oq_move rfl) rfl rfl rfl ?_
  refine WL.q (oq_not rfl) rfl rfl rfl ?_
  refine WL.nil ?_
  refine WE.then_normal ?_
  refine WC.sub (fr' := [(0, _), (6, _), (18, _)]) ?_ ⟨rfl, rfl, rfl, trivial⟩
  refine WC.cond_f rfl ?_
  refine WC.skip ?_
  refine WE.then_normal ?_
  refine WC.sub (fr' := [(0, _), (6, _)]) ?_ ⟨rfl, rfl, trivial⟩
  refine WC.seq ?_
  refine WC.region ?_
  refine WL.q (oq_move rfl) rfl rfl rfl ?_
  refine WL.q (oq_nilCheck rfl) rfl rfl rfl ?_
  refine WL.q (oq_fieldAddr fld46_2 rfl) rfl rfl rfl ?_
  refine WL.q (oq_load flat43 rfl (.head _) (List.mem_singleton.2 rfl) rfl) rfl rfl rfl ?_
  refine WL.q (oq_move rfl) rfl rfl rfl ?_
  refine WL.f2 ?_
  refine WL.callW1 (lfront _ bl _ nx pv vl _ it.e (A.map It.e) (B.map It.e) hrg hmm) call37 rfl rfl rfl fun v4_5 Hs4_5 hR4_5 => ?_
  obtain ⟨nx2, pv2, rfl, hr2⟩ := hR4_5
  refine WL.to1 ?_
  refine WL.nil ?_
  refine WE.then_normal ?_
  refine WC.sub (fr' := [(6, _)]) ?_ ⟨rfl, trivial⟩
  refine WC.seq ?_
  refine WC.region ?_
  refine WL.f3 ?_
  refine WL.reg (reg_out (EG.out A it B)) ?_
  refine WL.q (oq_move rfl) rfl rfl rfl ?_
  refine WL.q (oq_nilCheck rfl) rfl rfl rfl ?_
  refine WL.q (oq_fieldAddr fld51_3 rfl) rfl rfl rfl ?_
  refine WL.q (oq_lvl (b := it.e) (v := .iface 75 (Pt it.s 0)) (hmem) (⟨hbe, hvl⟩) flat20 rfl (.tail _ (.tail _ (.head _)))) rfl rfl rfl ?_
  refine WL.q (oq_askT conc75 rfl) rfl rfl rfl ?_
  refine WL.q (oq_nilCheck rfl) rfl rfl rfl ?_
  refine WL.q (oq_fieldAddr fld74_1 rfl) rfl rfl rfl ?_
  refine WL.q (oq_load flat20 rfl (.head _) (List.mem_singleton.2 rfl) rfl) rfl rfl rfl ?_
  refine WL.q (oq_assign rfl) rfl rfl rfl ?_
  refine WL.q (oq_assign rfl) rfl rfl rfl ?_
  refine WL.nil ?_
  refine WE.then_normal ?_
  refine WC.sub (fr' := [(4, _), (5, _)]) ?_ ⟨rfl, rfl, trivial⟩
  refine WC.ret ?_
  refine WE.f5 ?_
  refine WE.f3 ?_
  refine WE.f3 ?_
  refine WE.f3 ?_
  refine WE.f5 ?_
  refine WE.f5 ?_
  refine WE.endW5 (.inl rfl) (res2 Try.results34 rfl rfl) ?_
  -- end 0
  exact ⟨rfl, nx2, pv2, rfl, h.move it.v hr2⟩

/-- (*given.example/pub-tinwright/pub/smithy/container/private/cache/lru.lru).Get -/
theorem cgetMiss (base lb mb bl cap : Nat) (nx pv : Nat → Nat) (vl : Nat → Value) (ms : List (List UInt8 × Value × Nat)) (clk : Nat) (hcap : cap ≤ 100000) (items : List It) (k : List UInt8) (h : Cinv base bl cap items nx pv vl ms) (hk : k ∉ items.map It.k) : FnW Try.prog 34 [Pt lb 0, KS k] base [LR lb mb bl (cap : Int), MG KS mb ms clk, LG 51 53 bl ((items).map It.e) nx pv vl ((items).length : Int), EG (items)] (fun v Hs => v = .tuple #[.nilIface, .bool false] ∧ Hs = [LR lb mb bl (cap : Int), MG KS mb ms clk, LG 51 53 bl ((items).map It.e) nx pv vl ((items).length : Int), EG (items)]) := by
  refine FnW.enter (n := 33) Try.func34 rfl rfl fun w0 R0 hbase => ?_
  subst hbase
  show WC _ _ _ _ _ _ _ ([LR lb mb bl (cap : Int), MG KS mb ms clk, LG 51 53 bl ((items).map It.e) nx pv vl ((items).length : Int), EG (items), R0])
  refine WC.sub (fr' := [(0, _), (1, _)]) ?_ ⟨rfl, rfl, trivial⟩
  refine WC.seq ?_
  refine WC.region ?_
  refine WL.q (oq_assign rfl) rfl rfl rfl ?_
  refine WL.q (oq_assign rfl) rfl rfl rfl ?_
  refine WL.nil ?_
  refine WE.then_normal ?_
  refine WC.sub (fr' := [(0, _), (1, _)]) ?_ ⟨rfl, rfl, trivial⟩
  refine WC.seq ?_
  refine WC.region ?_
  refine WL.q (oq_move rfl) rfl rfl rfl ?_
  refine WL.q (oq_nilCheck rfl) rfl rfl rfl ?_
  refine WL.q (oq_fieldAddr fld46_0 rfl) rfl rfl rfl ?_
  refine WL.q (oq_load flat42 rfl (.head _) (List.mem_singleton.2 rfl) rfl) rfl rfl rfl ?_
  refine WL.q (oq_move rfl) rfl rfl rfl ?_
  refine WL.q (oq_lookup (.pointer none) (false) Try.underlying42 kOk ty49 rfl rfl (.tail _ (.head _)) (.inr ⟨h.miss hk, rfl, rfl⟩)) rfl rfl rfl ?_
  refine WL.q (oq_move rfl) rfl rfl rfl ?_
  refine WL.q (oq_extract rfl rfl) rfl rfl rfl ?_
  refine WL.q (oq_extract rfl rfl) rfl rfl rfl ?_
  refine WL.q (oq_assign rfl) rfl rfl rfl ?_
  refine WL.q (oq_assign rfl) rfl rfl rfl ?_
  refine WL.nil ?_
  refine WE.then_normal ?_
  refine WC.sub (fr' := [(0, _), (6, _), (7, _)]) ?_ ⟨rfl, rfl, rfl, trivial⟩
  refine WC.seq ?_
  refine WC.seq ?_
  refine WC.region ?_
  refine WL.q (oq_move rfl) rfl rfl rfl ?_
  refine WL.q (oq_not rfl) rfl rfl rfl ?_
  refine WL.nil ?_
  refine WE.then_normal ?_
  refine WC.sub (fr' := [(0, _), (6, _), (18, _)]) ?_ ⟨rfl, rfl, rfl, trivial⟩
  refine WC.cond_t rfl ?_
  refine WC.seq ?_
  refine WC.region ?_
  refine WL.q (oq_assign rfl) rfl rfl rfl ?_
  refine WL.q (oq_assign rfl) rfl rfl rfl ?_
  refine WL.nil ?_
  refine WE.then_normal ?_
  refine WC.sub (fr' := [(4, _), (5, _)]) ?_ ⟨rfl, rfl, trivial⟩
  refine WC.ret ?_
  refine WE.then_ret ?_
  refine WE.endW4 (.inl rfl) (res2 Try.results34 rfl rfl) ?_
  -- end 0
  exact ⟨rfl, rfl⟩

/-- (*given.example/pub-tinwright/pub/smithy/container/private/cache/lru.lru).Put -/
theorem cputHit (base lb mb bl cap : Nat) (nx pv : Nat → Nat) (vl : Nat → Value) (ms : List (List UInt8 × Value × Nat)) (clk : Nat) (hcap : cap ≤ 100000) (A B : List It) (it : It) (x : List UInt8) (h : Cinv base bl cap (A ++ it :: B) nx pv vl ms) : FnW Try.prog 35 [Pt lb 0, KS it.k, KS x] base [LR lb mb bl (cap : Int), MG KS mb ms clk, LG 51 53 bl (((A ++ it :: B)).map It.e) nx pv vl (((A ++ it :: B)).length : Int), EG ((A ++ it :: B))] (fun v Hs => ∃ nx2 pv2, Hs = [LR lb mb bl (cap : Int), MG KS mb ms clk, [(it.s, .cells #[KS it.k, KS x] 74 (0, 0))], EG (A ++ B), LG 51 53 bl ((A ++ it :: B).map It.e) nx2 pv2 vl ((A ++ it :: B).length : Int)] ∧ Cinv base bl cap ({ it with v := x } :: (A ++ B)) nx2 pv2 vl ms) := by
  have hrg := h.rg
  have hmm : ∀ x, x ∈ A.map It.e ++ it.e :: B.map It.e → x ∈ (A ++ it :: B).map It.e := fun x hx => by rw [List.map_append, List.map_cons]; exact hx
  have hvl := h.vls it (by simp)
  have hbe : it.e ≠ bl := fun e => by have := (List.nodup_cons.1 hrg.nd).1; rw [e] at this; exact this (by simp)
  have hmem : it.e ∈ bl :: (A ++ it :: B).map It.e := by simp
  refine FnW.enter (n := 63) Try.func35 rfl rfl fun w0 R0 hbase => ?_
  subst hbase
  show WC _ _ _ _ _ _ _ ([LR lb mb bl (cap : Int), MG KS mb ms clk, LG 51 53 bl (((A ++ it :: B)).map It.e) nx pv vl (((A ++ it :: B)).length : Int), EG ((A ++ it :: B)), R0])
  refine WC.sub (fr' := [(0, _), (1, _), (2, _)]) ?_ ⟨rfl, rfl, rfl, trivial⟩
  refine WC.seq ?_
  refine WC.seq ?_
  refine WC.region ?_
  refine WL.q (oq_move rfl) rfl rfl rfl ?_
  refine WL.q (oq_nilCheck rfl) rfl rfl rfl ?_
  refine WL.q (oq_fieldAddr fld46_0 rfl) rfl rfl rfl ?_
  refine WL.q (oq_load flat42 rfl (.head _) (List.mem_singleton.2 rfl) rfl) rfl rfl rfl ?_
  refine WL.q (oq_move rfl) rfl rfl rfl ?_
  refine WL.q (oq_lookup (Pt it.e 0) (true) Try.underlying42 kOk ty49 rfl rfl (.tail _ (.head _)) (.inl ⟨h.hit, rfl⟩)) rfl rfl rfl ?_
  refine WL.q (oq_move rfl) rfl rfl rfl ?_
  refine WL.q (oq_extract rfl rfl) rfl rfl rfl ?_
  refine WL.q (oq_extract rfl rfl) rfl rfl rfl ?_
  refine WL.q (oq_assign rfl) rfl rfl rfl ?_
  refine WL.q (oq_assign rfl) rfl rfl rfl ?_
  refine WL.nil ?_
  refine WE.then_normal ?_
  refine WC.sub (fr' := [(0, _), (1, _), (2, _), (6, _), (7, _)]) ?_ ⟨rfl, rfl, rfl, rfl, rfl, trivial⟩
  refine WC.seq ?_
  refine WC.region ?_
  refine WL.q (oq_move rfl) rfl rfl rfl ?_
  refine WL.nil ?_
  refine WE.then_normal ?_
  refine WC.sub (fr' := [(0, _), (1, _), (2, _), (6, _), (19, _)]) ?_ ⟨rfl, rfl, rfl, rfl, rfl, trivial⟩
  refine WC.cond_t rfl ?_
  refine WC.seq ?_
  refine WC.region ?_
  refine WL.f3 ?_
  refine WL.reg (reg_out (EG.out A it B)) ?_
  refine WL.q (oq_move rfl) rfl rfl rfl ?_
  refine WL.q (oq_nilCheck rfl) rfl rfl rfl ?_
  refine WL.q (oq_fieldAddr fld51_3 rfl) rfl rfl rfl ?_
  refine WL.q (oq_lvl (b := it.e) (v := .iface 75 (Pt it.s 0)) (hmem) (⟨hbe, hvl⟩) flat20 rfl (.tail _ (.tail _ (.tail _ (.tail _ (.head _)))))) rfl rfl rfl ?_
  refine WL.q (oq_askT conc75 rfl) rfl rfl rfl ?_
  refine WL.q (oq_move rfl) rfl rfl rfl ?_
  refine WL.q (oq_nilCheck rfl) rfl rfl rfl ?_
  refine WL.q (oq_fieldAddr fld74_1 rfl) rfl rfl rfl ?_
  refine WL.store1 #[_, _] ty20 rfl rfl (by first | rfl | exact OwS.one one_) (Nat.lt_of_lt_of_le (Nat.lt_succ_self _) (Nat.le_of_ble_eq_true rfl)) rfl rfl ?_
  refine WL.nil ?_
  refine WE.then_normal ?_
  refine WC.sub (fr' := [(0, _), (6, _)]) ?_ ⟨rfl, rfl, trivial⟩
  refine WC.seq ?_
  refine WC.region ?_
  refine WL.q (oq_move rfl) rfl rfl rfl ?_
  refine WL.q (oq_nilCheck rfl) rfl rfl rfl ?_
  refine WL.q (oq_fieldAddr fld46_2 rfl) rfl rfl rfl ?_
  refine WL.q (oq_load flat43 rfl (.tail _ (.tail _ (.head _))) (List.mem_singleton.2 rfl) rfl) rfl rfl rfl ?_
  refine WL.q (oq_move rfl) rfl rfl rfl ?_
  refine WL.f4 ?_
  refine WL.callW1 (lfront _ bl _ nx pv vl _ it.e (A.map It.e) (B.map It.e) hrg hmm) call37 rfl rfl rfl fun v3_5 Hs3_5 hR3_5 => ?_
  obtain ⟨nx2, pv2, rfl, hr2⟩ := hR3_5
  refine WL.to1 ?_
  refine WL.nil ?_
  refine WE.then_normal ?_
  refine WC.sub (fr' := []) ?_ trivial
  refine WC.ret ?_
  refine WE.then_ret ?_
  refine WE.f5 ?_
  refine WE.f1 ?_
  refine WE.f3 ?_
  refine WE.f3 ?_
  refine WE.f5 ?_
  refine WE.f5 ?_
  refine WE.endW5 (.inl rfl) (res0 Try.results35) ?_
  -- end 0
  exact ⟨nx2, pv2, rfl, h.move x hr2⟩

/-- (*given.example/pub-tinwright/pub/smithy/container/private/cache/lru.lru).evict -/
theorem cevict (base lb mb bl cap : Nat) (nx pv : Nat → Nat) (vl : Nat → Value) (ms : List (List UInt8 × Value × Nat)) (clk : Nat) (hcap : cap ≤ 100000) (A : List It) (it : It) (h : Cinv base bl cap (A ++ [it]) nx pv vl ms) : FnW Try.prog 36 [Pt lb 0] base [LR lb mb bl (cap : Int), MG KS mb ms clk, LG 51 53 bl (((A ++ [it])).map It.e) nx pv vl (((A ++ [it])).length : Int), EG ((A ++ [it]))] (fun v Hs => ∃ nx2 pv2, Hs = [LR lb mb bl (cap : Int), MG KS mb (mdel it.k ms) clk, LG 51 53 bl ((A).map It.e) nx2 pv2 vl ((A).length : Int), EG (A)] ∧ Cinv base bl cap A nx2 pv2 vl (mdel it.k ms)) := by
  have hrg := h.rg
  have hmm : ∀ x, x ∈ A.map It.e ++ it.e :: ([] : List It).map It.e → x ∈ (A ++ [it]).map It.e := fun x hx => by rw [List.map_append, List.map_cons]; exact hx
  have hvl := h.vls it (by simp)
  have hbk : pv bl = it.e := Rg.back hrg
  obtain ⟨hne, hns⟩ := h.new it (by simp)
  have hcp := h.cp
  have hlen : (A ++ [it]).length = A.length + 1 := by simp
  have hback := lback bl ((A ++ [it]).map It.e) nx pv vl ((A ++ [it]).length : Int) (by omega)
  rw [hbk] at hback
  have her : ((A ++ [it]).map It.e).erase it.e = A.map It.e := by
    have hn : it.e ∉ A.map It.e := fun h1 => by have := (List.nodup_cons.1 hrg.nd).2; rw [List.nodup_append] at this; exact this.2.2 it.e h1 it.e (by simp) rfl
    rw [List.map_append, List.erase_append_right _ hn]; simp
  refine FnW.enter (n := 22) Try.func36 rfl rfl fun w0 R0 hbase => ?_
  subst hbase
  show WC _ _ _ _ _ _ _ ([LR lb mb bl (cap : Int), MG KS mb ms clk, LG 51 53 bl (((A ++ [it])).map It.e) nx pv vl (((A ++ [it])).length : Int), EG ((A ++ [it])), R0])
  refine WC.sub (fr' := [(0, _)]) ?_ ⟨rfl, trivial⟩
  refine WC.seq ?_
  refine WC.tailQ (ql := [_, _, _, _, _, _, _, _, _]) (tl := [_, _]) [0, 1, 2, 3, 4, 5, 6, 7, 8] 9 [10] (by kernel_rfl) (by kernel_rfl) (by kernel_rfl) (by kernel_rfl) (by kernel_rfl) (by decide) rfl rfl (by repeat (first | with_reducible exact QOk.body | with_reducible apply QOk.then | with_reducible apply QOk.block | exact QOk.body | apply QOk.then | apply QOk.block)) ?_
  refine WQ.q (oq_move rfl) rfl rfl rfl ?_
  refine WQ.q (oq_nilCheck rfl) rfl rfl rfl ?_
  refine WQ.q (oq_fieldAddr fld46_2 rfl) rfl rfl rfl ?_
  refine WQ.q (oq_load flat43 rfl (.head _) (List.mem_singleton.2 rfl) rfl) rfl rfl rfl ?_
  refine WQ.q (oq_move rfl) rfl rfl rfl ?_
  refine WQ.q (oq_nilCheck rfl) rfl rfl rfl ?_
  refine WQ.q (oq_fieldAddr fld46_2 rfl) rfl rfl rfl ?_
  refine WQ.q (oq_load flat43 rfl (.head _) (List.mem_singleton.2 rfl) rfl) rfl rfl rfl ?_
  refine WQ.qc (oq_callRm (hback) (.tail _ (.tail _ (.head _))) call40 rfl) rfl rfl rfl ?_
  refine WQ.toL ?_
  refine WL.f2 ?_
  refine WL.callW1 (lrem _ bl _ nx pv vl _ it.e (A.map It.e) (([] : List It).map It.e) hrg hmm (by omega) hne) call39 rfl rfl rfl fun v0_9 Hs0_9 hR0_9 => ?_
  obtain ⟨rfl, nx2, pv2, rfl, hr2⟩ := hR0_9
  rw [hvl, her, hlen, show (((A.length + 1 : Nat) : Int) - 1) = (A.length : Int) by omega]
  refine WL.to1 ?_
  refine WL.f3 ?_
  refine WL.reg (reg_out (EG.out A it [])) ?_
  rw [List.append_nil]
  refine WL.q (oq_assign rfl) rfl rfl rfl ?_
  refine WL.nil ?_
  refine WE.then_normal ?_
  refine WC.sub (fr' := [(0, _), (2, _)]) ?_ ⟨rfl, rfl, trivial⟩
  refine WC.tailM (pl := []) (ql := [_, _, _, _, _, _, _, _, _]) (tl := [_]) [] [0, 1, 2, 3, 4, 5, 6, 7, 8] 9 [] (by kernel_rfl) (by kernel_rfl) (by kernel_rfl) (by kernel_rfl) (by kernel_rfl) (by kernel_rfl) (by decide) rfl rfl rfl (by decide) (by repeat (first | with_reducible exact QOk.body | with_reducible apply QOk.then | with_reducible apply QOk.block | exact QOk.body | apply QOk.then | apply QOk.block)) ?_
  refine WM.nil ?_
  refine WY.q (oq_move rfl) rfl rfl rfl ?_
  refine WY.q (oq_nilCheck rfl) rfl rfl rfl ?_
  refine WY.q (oq_fieldAddr fld46_0 rfl) rfl rfl rfl ?_
  refine WY.q (oq_load flat42 rfl (.tail _ (.tail _ (.tail _ (.head _)))) (List.mem_singleton.2 rfl) rfl) rfl rfl rfl ?_
  refine WY.q (oq_move rfl) rfl rfl rfl ?_
  refine WY.q (oq_askT conc75 rfl) rfl rfl rfl ?_
  refine WY.q (oq_nilCheck rfl) rfl rfl rfl ?_
  refine WY.q (oq_fieldAddr fld74_0 rfl) rfl rfl rfl ?_
  refine WY.q (oq_load flat20 rfl (.head _) (List.mem_singleton.2 rfl) rfl) rfl rfl rfl ?_
  refine WY.nil ?_
  refine WL.f4 ?_
  refine WL.delete Try.underlying42 kOk rfl rfl rfl ?_
  refine WL.nil ?_
  refine WE.f1 ?_
  refine WE.lose hns ?_
  refine WE.f4 ?_
  refine WE.f2 ?_
  refine WE.f3 ?_
  refine WE.f3 ?_
  refine WE.f4 ?_
  refine WE.endW4 (.inr rfl) (res0 Try.results36) ?_
  -- end 0
  exact ⟨nx2, pv2, rfl, h.drop hr2⟩

/-- (*given.example/pub-tinwright/pub/smithy/container/private/cache/lru.lru).Put -/
theorem cputNew (base lb mb bl cap : Nat) (nx pv : Nat → Nat) (vl : Nat → Value) (ms : List (List UInt8 × Value × Nat)) (clk : Nat) (hcap : cap ≤ 100000) (items : List It) (k x : List UInt8) (h : Cinv base bl cap items nx pv vl ms) (hk : k ∉ items.map It.k) (hc1 : 1 ≤ cap) : FnW Try.prog 35 [Pt lb 0, KS k, KS x] base [LR lb mb bl (cap : Int), MG KS mb ms clk, LG 51 53 bl ((items).map It.e) nx pv vl ((items).length : Int), EG (items)] (fun v Hs => ∃ its e s nx2 pv2 vl2 ms2 clk2, kv its = (if items.length = cap then (kv items).dropLast else kv items) ∧ Hs = [LR lb mb bl (cap : Int), MG KS mb ms2 clk2, LG 51 53 bl ((It.mk e s k x :: its).map It.e) nx2 pv2 vl2 ((It.mk e s k x :: its).length : Int), [(s, .cells #[KS k, KS x] 74 (0, 0))], EG its] ∧ Cinv base bl cap (It.mk e s k x :: its) nx2 pv2 vl2 ms2) := by
  have hml := h.len
  have hcp := h.cp
  refine FnW.enter (n := 63) Try.func35 rfl rfl fun w0 R0 hbase => ?_
  subst hbase
  show WC _ _ _ _ _ _ _ ([LR lb mb bl (cap : Int), MG KS mb ms clk, LG 51 53 bl ((items).map It.e) nx pv vl ((items).length : Int), EG (items), R0])
  refine WC.sub (fr' := [(0, _), (1, _), (2, _)]) ?_ ⟨rfl, rfl, rfl, trivial⟩
  refine WC.seq ?_
  refine WC.seq ?_
  refine WC.region ?_
  refine WL.q (oq_move rfl) rfl rfl rfl ?_
  refine WL.q (oq_nilCheck rfl) rfl rfl rfl ?_
  refine WL.q (oq_fieldAddr fld46_0 rfl) rfl rfl rfl ?_
  refine WL.q (oq_load flat42 rfl (.head _) (List.mem_singleton.2 rfl) rfl) rfl rfl rfl ?_
  refine WL.q (oq_move rfl) rfl rfl rfl ?_
  refine WL.q (oq_lookup (.pointer none) (false) Try.underlying42 kOk ty49 rfl rfl (.tail _ (.head _)) (.inr ⟨h.miss hk, rfl, rfl⟩)) rfl rfl rfl ?_
  refine WL.q (oq_move rfl) rfl rfl rfl ?_
  refine WL.q (oq_extract rfl rfl) rfl rfl rfl ?_
  refine WL.q (oq_extract rfl rfl) rfl rfl rfl ?_
  refine WL.q (oq_assign rfl) rfl rfl rfl ?_
  refine WL.q (oq_assign rfl) rfl rfl rfl ?_
  refine WL.nil ?_
  refine WE.then_normal ?_
  refine WC.sub (fr' := [(0, _), (1, _), (2, _), (6, _), (7, _)]) ?_ ⟨rfl, rfl, rfl, rfl, rfl, trivial⟩
  refine WC.seq ?_
  refine WC.region ?_
  refine WL.q (oq_move rfl) rfl rfl rfl ?_
  refine WL.nil ?_
  refine WE.then_normal ?_
  refine WC.sub (fr' := [(0, _), (1, _), (2, _), (6, _), (19, _)]) ?_ ⟨rfl, rfl, rfl, rfl, rfl, trivial⟩
  refine WC.cond_f rfl ?_
  refine WC.skip ?_
  refine WE.then_normal ?_
  refine WC.sub (fr' := [(0, _), (1, _), (2, _)]) ?_ ⟨rfl, rfl, rfl, trivial⟩
  refine WC.cut (ι := (List It) × (Nat → Nat) × (Nat → Nat) × (List (List UInt8 × Value × Nat))) (fun i_ => (fun (its : List It) (nx1 : Nat → Nat) (pv1 : Nat → Nat) (ms1 : List (List UInt8 × Value × Nat)) => [(0, Pt lb 0), (1, KS k), (2, KS x)]) i_.1 i_.2.1 i_.2.2.1 i_.2.2.2) (fun i_ => (fun (its : List It) (nx1 : Nat → Nat) (pv1 : Nat → Nat) (ms1 : List (List UInt8 × Value × Nat)) => [LR lb mb bl (cap : Int), MG KS mb ms1 clk, LG 51 53 bl ((its).map It.e) nx1 pv1 vl ((its).length : Int), EG (its), R0]) i_.1 i_.2.1 i_.2.2.1 i_.2.2.2) (fun i_ => (fun (its : List It) (nx1 : Nat → Nat) (pv1 : Nat → Nat) (ms1 : List (List UInt8 × Value × Nat)) => kv its = (if items.length = cap then (kv items).dropLast else kv items) ∧ k ∉ its.map It.k ∧ its.length < cap ∧ Cinv w0.heap.size bl cap its nx1 pv1 vl ms1) i_.1 i_.2.1 i_.2.2.1 i_.2.2.2) ?_ ?_
  ·
    refine WC.seq ?_
    refine WC.quiet (by kernel_rfl) (by kernel_rfl) ?_
    refine WQ.q (oq_move rfl) rfl rfl rfl ?_
    refine WQ.q (oq_nilCheck rfl) rfl rfl rfl ?_
    refine WQ.q (oq_fieldAddr fld46_0 rfl) rfl rfl rfl ?_
    refine WQ.q (oq_load flat42 rfl (.head _) (List.mem_singleton.2 rfl) rfl) rfl rfl rfl ?_
    refine WQ.q (oq_len_m Try.underlying42 rfl (.tail _ (.head _))) rfl rfl rfl ?_
    refine WQ.q (oq_move rfl) rfl rfl rfl ?_
    refine WQ.q (oq_nilCheck rfl) rfl rfl rfl ?_
    refine WQ.q (oq_fieldAddr fld46_1 rfl) rfl rfl rfl ?_
    refine WQ.q (oq_load flat3 rfl (.head _) (List.mem_singleton.2 rfl) rfl) rfl rfl rfl ?_
    refine WQ.q (oq_eql rfl rfl) rfl rfl rfl ?_
    refine WQ.nil ?_
    refine WE.then_normal ?_
    refine WC.sub (fr' := [(0, _), (1, _), (2, _), (43, _)]) ?_ ⟨rfl, rfl, rfl, rfl, trivial⟩
    refine WC.cond rfl (fun q4 => ?_) (fun q4 => ?_)
    ·
      try simp only [Bool.not_eq_eq_eq_not, Bool.not_true, Bool.not_false, decide_eq_true_eq, decide_eq_false_iff_not, Int.not_lt, Int.not_le, ne_eq, Decidable.not_not, ← List.length_eq_zero_iff] at q4
      obtain ⟨A, it, hA⟩ : ∃ A it, items = A ++ [it] := ⟨_, _, (List.dropLast_concat_getLast (fun e => by rw [e] at hml; simp at hml; simp [hml] at q4; omega)).symm⟩
      subst hA
      refine WC.region ?_
      refine WL.q (oq_move rfl) rfl rfl rfl ?_
      refine WL.f3 ?_
      refine WL.f3 ?_
      refine WL.f3 ?_
      refine WL.f3 ?_
      refine WL.callW4 (cevict _ lb mb bl cap nx pv vl ms clk hcap A it h) call36 rfl rfl rfl fun v5_1 Hs5_1 hR5_1 => ?_
      obtain ⟨nx2, pv2, rfl, h2⟩ := hR5_1
      refine WL.to4 ?_
      refine WL.nil ?_
      refine WE.meet (A, nx2, pv2, mdel it.k ms) ?_ ⟨rfl, rfl, rfl, trivial⟩ (List.Perm.refl _)
      try dsimp only
      exact ⟨by rw [if_pos (by omega)]; simp [kv], fun h3 => hk (by rw [List.map_append]; exact List.mem_append_left _ h3), by simp at hcp; omega, h2⟩   -- meet 0
    ·
      try simp only [Bool.not_eq_eq_eq_not, Bool.not_true, Bool.not_false, decide_eq_true_eq, decide_eq_false_iff_not, Int.not_lt, Int.not_le, ne_eq, Decidable.not_not, ← List.length_eq_zero_iff] at q4
      refine WC.skip ?_
      refine WE.meet (items, nx, pv, ms) ?_ ⟨rfl, rfl, rfl, trivial⟩ (List.Perm.refl _)
      try dsimp only
      exact ⟨by rw [if_neg (by omega)], hk, by omega, h⟩   -- meet 1
  · rintro ⟨its, nx1, pv1, ms1⟩ hp
    try dsimp only at hp
    obtain ⟨hkv, hk1, hc2, h1⟩ := hp
    show WC _ _ _ _ _ _ ([(0, Pt lb 0), (1, KS k), (2, KS x)]) ([LR lb mb bl (cap : Int), MG KS mb ms1 clk, LG 51 53 bl ((its).map It.e) nx1 pv1 vl ((its).length : Int), EG (its), R0])
    refine WC.seq ?_
    refine WC.region ?_
    refine WL.q (oq_move rfl) rfl rfl rfl ?_
    refine WL.q (oq_move rfl) rfl rfl rfl ?_
    refine WL.q (oq_build #[_, _] str74 ty74 rfl rfl) rfl rfl rfl ?_
    refine WL.box rfl rfl rfl fun s hs => ?_
    refine WL.q (oq_assign rfl) rfl rfl rfl ?_
    refine WL.nil ?_
    refine WE.then_normal ?_
    refine WC.sub (fr' := [(0, _), (1, _), (8, _)]) ?_ ⟨rfl, rfl, rfl, trivial⟩
    refine WC.seq ?_
    refine WC.region ?_
    refine WL.q (oq_move rfl) rfl rfl rfl ?_
    refine WL.q (oq_nilCheck rfl) rfl rfl rfl ?_
    refine WL.q (oq_fieldAddr fld46_2 rfl) rfl rfl rfl ?_
    refine WL.q (oq_load flat43 rfl (.tail _ (.head _)) (List.mem_singleton.2 rfl) rfl) rfl rfl rfl ?_
    refine WL.q (oq_move rfl) rfl rfl rfl ?_
    refine WL.q (oq_makeI conc75 rfl) rfl rfl rfl ?_
    refine WL.f3 ?_
    refine WL.callW1 (lpush _ bl (its.map It.e) nx1 pv1 vl (its.length : Int) (its.map It.e) 75 (Pt s 0) h1.ring (fun x hx => hx) (by have := h1.cp; omega)) call38 rfl rfl rfl fun v7_6 Hs7_6 hR7_6 => ?_
    obtain ⟨e, nx3, pv3, rfl, he, hne, rfl, hr3⟩ := hR7_6
    refine WL.to1 ?_
    refine WL.q (oq_assign rfl) rfl rfl rfl ?_
    refine WL.nil ?_
    refine WE.then_normal ?_
    refine WC.sub (fr' := [(0, _), (1, _), (9, _)]) ?_ ⟨rfl, rfl, rfl, trivial⟩
    refine WC.region ?_
    refine WL.q (oq_move rfl) rfl rfl rfl ?_
    refine WL.q (oq_nilCheck rfl) rfl rfl rfl ?_
    refine WL.q (oq_fieldAddr fld46_0 rfl) rfl rfl rfl ?_
    refine WL.q (oq_load flat42 rfl (.tail _ (.tail _ (.head _))) (List.mem_singleton.2 rfl) rfl) rfl rfl rfl ?_
    refine WL.q (oq_move rfl) rfl rfl rfl ?_
    refine WL.q (oq_move rfl) rfl rfl rfl ?_
    refine WL.f3 ?_
    refine WL.mapUpdate Try.underlying42 kOk rfl rfl rfl rfl ?_
    refine WL.nil ?_
    refine WE.f5 ?_
    refine WE.f5 ?_
    refine WE.f4 ?_
    refine WE.f4 ?_
    refine WE.f4 ?_
    refine WE.f5 ?_
    refine WE.endW5 (.inr rfl) (res0 Try.results35) ?_
    -- end 0
    exact ⟨its, e, s, nx3, pv3, _, _, _, hkv, rfl, h1.add hk1 hc2 hr3 he hs⟩

/-- given.example/pub-tinwright/pub/smithy/container/private/cache/lru.New -/
theorem cnew (base cap : Nat) (hc1 : 1 ≤ cap) (hcap : cap ≤ 100000) : FnW Try.prog 12 [I (cap : Int)] base [] (fun v Hs => ∃ lb mb bl, base ≤ lb ∧ base ≤ mb ∧ base ≤ bl ∧ v = .iface 41 (Pt lb 0) ∧ Hs = [LR lb mb bl (cap : Int), MG KS mb [] 0, LG 51 53 bl [] (fun _ => bl) (fun _ => bl) (fun _ => .nilIface) 0]) := by
  refine FnW.enter (n := 10) Try.func12 rfl rfl fun w0 R0 hbase => ?_
  subst hbase
  show WC _ _ _ _ _ _ _ ([R0])
  refine WC.sub (fr' := [(0, _)]) ?_ ⟨rfl, trivial⟩
  refine WC.seq ?_
  refine WC.region ?_
  refine WL.q (oq_assign rfl) rfl rfl rfl ?_
  refine WL.nil ?_
  refine WE.then_normal ?_
  refine WC.sub (fr' := [(0, _)]) ?_ ⟨rfl, trivial⟩
  refine WC.seq ?_
  refine WC.fork (ql := [_, _]) (tl := [_, _, _, _]) [0, 2] 1 3 [4, 5, 6, 7] (by kernel_rfl) (by kernel_rfl) (by kernel_rfl) (by decide) rfl rfl rfl rfl (by repeat (first | with_reducible exact QOk.body | with_reducible apply QOk.then | with_reducible apply QOk.block | exact QOk.body | apply QOk.then | apply QOk.block)) ?_ ?_
  ·
    refine WX.q (fun w0 => oq_move rfl) rfl rfl rfl ?_
    refine WX.q (fun w0 => oq_move rfl) rfl rfl rfl ?_
    refine WX.nil ?_
    refine WL.makeMapH (KS) Try.underlying42 rfl rfl rfl fun mb hmb => ?_
    refine WL.callA0 (lnew) call14 rfl rfl rfl fun v1_3 N1_3 hR1_3 hN1_3 => ?_
    obtain ⟨bl, rfl, rfl⟩ := hR1_3
    have hbl : w0.heap.size ≤ bl := hN1_3 bl _ (by unfold LG; exact List.mem_cons_self)
    refine WL.q (oq_build #[_, _, _] str46 ty46 rfl rfl) rfl rfl rfl ?_
    refine WL.box rfl rfl rfl fun lb hlb => ?_
    refine WL.q (oq_makeI conc41 rfl) rfl rfl rfl ?_
    refine WL.q (oq_assign rfl) rfl rfl rfl ?_
    refine WL.nil ?_
    refine WE.then_normal ?_
    refine WC.sub (fr' := [(2, _)]) ?_ ⟨rfl, trivial⟩
    refine WC.ret ?_
    refine WE.f3 ?_
    refine WE.f2 ?_
    refine WE.f3 ?_
    refine WE.f3 ?_
    refine WE.endW3 (.inl rfl) (res1 Try.results12 rfl) ?_
    -- end 0
    exact ⟨lb, mb, bl, hlb, hmb, hbl, rfl, rfl⟩
  ·
    refine WX.q (fun w0 => oq_move rfl) rfl rfl rfl ?_
    refine WX.q (fun w0 => oq_move rfl) rfl rfl rfl ?_
    refine WX.nil ?_
    refine WL.callA0 (lnew) call14 rfl rfl rfl fun v1_3 N1_3 hR1_3 hN1_3 => ?_
    obtain ⟨bl, rfl, rfl⟩ := hR1_3
    have hbl : w0.heap.size ≤ bl := hN1_3 bl _ (by unfold LG; exact List.mem_cons_self)
    refine WL.makeMapH (KS) Try.underlying42 rfl rfl rfl fun mb hmb => ?_
    refine WL.q (oq_build #[_, _, _] str46 ty46 rfl rfl) rfl rfl rfl ?_
    refine WL.box rfl rfl rfl fun lb hlb => ?_
    refine WL.q (oq_makeI conc41 rfl) rfl rfl rfl ?_
    refine WL.q (oq_assign rfl) rfl rfl rfl ?_
    refine WL.nil ?_
    refine WE.then_normal ?_
    refine WC.sub (fr' := [(2, _)]) ?_ ⟨rfl, trivial⟩
    refine WC.ret ?_
    refine WE.endW3 (.inl rfl) (res1 Try.results12 rfl) ?_
    -- end 1
    exact ⟨lb, mb, bl, hlb, hmb, hbl, rfl, rfl⟩

end Q2
end Go.Proofs.Ytjmlifpngnbomaa
