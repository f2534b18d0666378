/- Stacks that are called: middleware, the nodes of a step, what wraps a handler. -/
import Derived.Test.YtiegaefkahnfjaaGreatSJ
namespace Go.Proofs.YtiegaefkahnfjaaGreat
open Go Go.RowKit V S0 S1 S2 S3 S4 S5 S6 S7 S8 SJ
set_option linter.unusedSimpArgs false
set_option linter.unusedVariables false
set_option maxRecDepth 10000
namespace SK
theorem call52 : Callable Tryz.prog 52 := ⟨_, Tryz.func52, rfl, by kernel_rfl⟩
theorem call53 : Callable Tryz.prog 53 := ⟨_, Tryz.func53, rfl, by kernel_rfl⟩
theorem call54 : Callable Tryz.prog 54 := ⟨_, Tryz.func54, rfl, by kernel_rfl⟩
theorem call68 : Callable Tryz.prog 68 := ⟨_, Tryz.func68, rfl, by kernel_rfl⟩
theorem call82 : Callable Tryz.prog 82 := ⟨_, Tryz.func82, rfl, by kernel_rfl⟩
theorem call96 : Callable Tryz.prog 96 := ⟨_, Tryz.func96, rfl, by kernel_rfl⟩
theorem call110 : Callable Tryz.prog 110 := ⟨_, Tryz.func110, rfl, by kernel_rfl⟩
theorem flat9 : Flat Tryz.prog 9 := ⟨_, Tryz.underlying9, by simp⟩
theorem flat20 : Flat Tryz.prog 20 := ⟨_, Tryz.underlying20, by simp⟩
theorem flat54 : Flat Tryz.prog 54 := ⟨_, Tryz.underlying54, by simp⟩
theorem flat87 : Flat Tryz.prog 87 := ⟨_, Tryz.underlying87, by simp⟩
theorem flat98 : Flat Tryz.prog 98 := ⟨_, Tryz.underlying98, by simp⟩
theorem flat103 : Flat Tryz.prog 103 := ⟨_, Tryz.underlying103, by simp⟩
theorem flat111 : Flat Tryz.prog 111 := ⟨_, Tryz.underlying111, by simp⟩
theorem flat121 : Flat Tryz.prog 121 := ⟨_, Tryz.underlying121, by simp⟩
theorem flat126 : Flat Tryz.prog 126 := ⟨_, Tryz.underlying126, by simp⟩
theorem flat130 : Flat Tryz.prog 130 := ⟨_, Tryz.underlying130, by simp⟩
theorem flat140 : Flat Tryz.prog 140 := ⟨_, Tryz.underlying140, by simp⟩
theorem flat145 : Flat Tryz.prog 145 := ⟨_, Tryz.underlying145, by simp⟩
theorem flat149 : Flat Tryz.prog 149 := ⟨_, Tryz.underlying149, by simp⟩
theorem flat159 : Flat Tryz.prog 159 := ⟨_, Tryz.underlying159, by simp⟩
theorem flat163 : Flat Tryz.prog 163 := ⟨_, Tryz.underlying163, by simp⟩
theorem flat167 : Flat Tryz.prog 167 := ⟨_, Tryz.underlying167, by simp⟩
theorem flat177 : Flat Tryz.prog 177 := ⟨_, Tryz.underlying177, by simp⟩
theorem flat181 : Flat Tryz.prog 181 := ⟨_, Tryz.underlying181, by simp⟩
theorem flat186 : Flat Tryz.prog 186 := ⟨_, Tryz.underlying186, by simp⟩
theorem ty20 : Ty Tryz.prog 20 .nilIface 1 16 := ty_of (by kernel_rfl)
theorem ty59 : Ty Tryz.prog 59 (.agg #[(.map none)]) 1 8 := ty_of (by kernel_rfl)
theorem ty87 : Ty Tryz.prog 87 .nilIface 1 16 := ty_of (by kernel_rfl)
theorem ty98 : Ty Tryz.prog 98 .nilIface 1 16 := ty_of (by kernel_rfl)
theorem ty101 : Ty Tryz.prog 101 (.agg #[.nilIface]) 1 16 := ty_of (by kernel_rfl)
theorem ty103 : Ty Tryz.prog 103 .nilIface 1 16 := ty_of (by kernel_rfl)
theorem ty105 : Ty Tryz.prog 105 (.agg #[.nilIface]) 1 16 := ty_of (by kernel_rfl)
theorem ty111 : Ty Tryz.prog 111 .nilFunc 1 8 := ty_of (by kernel_rfl)
theorem ty121 : Ty Tryz.prog 121 .nilIface 1 16 := ty_of (by kernel_rfl)
theorem ty124 : Ty Tryz.prog 124 (.agg #[.nilIface, .nilIface]) 2 32 := ty_of (by kernel_rfl)
theorem ty126 : Ty Tryz.prog 126 .nilIface 1 16 := ty_of (by kernel_rfl)
theorem ty127 : Ty Tryz.prog 127 (.agg #[.nilIface]) 1 16 := ty_of (by kernel_rfl)
theorem ty130 : Ty Tryz.prog 130 .nilFunc 1 8 := ty_of (by kernel_rfl)
theorem ty140 : Ty Tryz.prog 140 .nilIface 1 16 := ty_of (by kernel_rfl)
theorem ty143 : Ty Tryz.prog 143 (.agg #[.nilIface]) 1 16 := ty_of (by kernel_rfl)
theorem ty145 : Ty Tryz.prog 145 .nilIface 1 16 := ty_of (by kernel_rfl)
theorem ty146 : Ty Tryz.prog 146 (.agg #[.nilIface]) 1 16 := ty_of (by kernel_rfl)
theorem ty149 : Ty Tryz.prog 149 .nilFunc 1 8 := ty_of (by kernel_rfl)
theorem ty159 : Ty Tryz.prog 159 .nilIface 1 16 := ty_of (by kernel_rfl)
theorem ty161 : Ty Tryz.prog 161 (.agg #[.nilIface]) 1 16 := ty_of (by kernel_rfl)
theorem ty163 : Ty Tryz.prog 163 .nilIface 1 16 := ty_of (by kernel_rfl)
theorem ty164 : Ty Tryz.prog 164 (.agg #[.nilIface]) 1 16 := ty_of (by kernel_rfl)
theorem ty167 : Ty Tryz.prog 167 .nilFunc 1 8 := ty_of (by kernel_rfl)
theorem ty177 : Ty Tryz.prog 177 .nilIface 1 16 := ty_of (by kernel_rfl)
theorem ty179 : Ty Tryz.prog 179 (.agg #[.nilIface]) 1 16 := ty_of (by kernel_rfl)
theorem ty181 : Ty Tryz.prog 181 .nilIface 1 16 := ty_of (by kernel_rfl)
theorem ty183 : Ty Tryz.prog 183 (.agg #[.nilIface, .nilIface]) 2 32 := ty_of (by kernel_rfl)
theorem ty186 : Ty Tryz.prog 186 .nilFunc 1 8 := ty_of (by kernel_rfl)
theorem agg59 : Agg Tryz.prog 59 := agg_of Tryz.underlying59
theorem agg101 : Agg Tryz.prog 101 := agg_of Tryz.underlying101
theorem agg105 : Agg Tryz.prog 105 := agg_of Tryz.underlying105
theorem agg124 : Agg Tryz.prog 124 := agg_of Tryz.underlying124
theorem agg127 : Agg Tryz.prog 127 := agg_of Tryz.underlying127
theorem agg143 : Agg Tryz.prog 143 := agg_of Tryz.underlying143
theorem agg146 : Agg Tryz.prog 146 := agg_of Tryz.underlying146
theorem agg161 : Agg Tryz.prog 161 := agg_of Tryz.underlying161
theorem agg164 : Agg Tryz.prog 164 := agg_of Tryz.underlying164
theorem agg179 : Agg Tryz.prog 179 := agg_of Tryz.underlying179
theorem agg183 : Agg Tryz.prog 183 := agg_of Tryz.underlying183
theorem str59 : Str Tryz.prog 59 #[(0, 1)] := ⟨_, Tryz.underlying59, fun w => by kernel_rfl⟩
theorem str105 : Str Tryz.prog 105 #[(0, 1)] := ⟨_, Tryz.underlying105, fun w => by kernel_rfl⟩
theorem str127 : Str Tryz.prog 127 #[(0, 1)] := ⟨_, Tryz.underlying127, fun w => by kernel_rfl⟩
theorem str146 : Str Tryz.prog 146 #[(0, 1)] := ⟨_, Tryz.underlying146, fun w => by kernel_rfl⟩
theorem str164 : Str Tryz.prog 164 #[(0, 1)] := ⟨_, Tryz.underlying164, fun w => by kernel_rfl⟩
theorem str183 : Str Tryz.prog 183 #[(0, 1), (1, 1)] := ⟨_, Tryz.underlying183, fun w => by kernel_rfl⟩
theorem fld101_0 : Fld Tryz.prog 101 0 0 20 := fld_of Tryz.underlying101 rfl rfl rfl ty20 (by decide)
theorem fld124_1 : Fld Tryz.prog 124 1 1 20 := fld_of Tryz.underlying124 rfl rfl rfl ty20 (by decide)
theorem fld143_0 : Fld Tryz.prog 143 0 0 20 := fld_of Tryz.underlying143 rfl rfl rfl ty20 (by decide)
theorem fld161_0 : Fld Tryz.prog 161 0 0 20 := fld_of Tryz.underlying161 rfl rfl rfl ty20 (by decide)
theorem fld179_0 : Fld Tryz.prog 179 0 0 20 := fld_of Tryz.underlying179 rfl rfl rfl ty20 (by decide)
theorem fld204_0 : Fld Tryz.prog 204 0 0 103 := fld_of Tryz.underlying204 rfl rfl rfl ty103 (by decide)
theorem fld204_1 : Fld Tryz.prog 204 1 1 98 := fld_of Tryz.underlying204 rfl rfl rfl ty98 (by decide)
theorem fld210_0 : Fld Tryz.prog 210 0 0 126 := fld_of Tryz.underlying210 rfl rfl rfl ty126 (by decide)
theorem fld210_1 : Fld Tryz.prog 210 1 1 121 := fld_of Tryz.underlying210 rfl rfl rfl ty121 (by decide)
theorem fld216_0 : Fld Tryz.prog 216 0 0 145 := fld_of Tryz.underlying216 rfl rfl rfl ty145 (by decide)
theorem fld216_1 : Fld Tryz.prog 216 1 1 140 := fld_of Tryz.underlying216 rfl rfl rfl ty140 (by decide)
theorem fld222_0 : Fld Tryz.prog 222 0 0 163 := fld_of Tryz.underlying222 rfl rfl rfl ty163 (by decide)
theorem fld222_1 : Fld Tryz.prog 222 1 1 159 := fld_of Tryz.underlying222 rfl rfl rfl ty159 (by decide)
theorem fld228_0 : Fld Tryz.prog 228 0 0 181 := fld_of Tryz.underlying228 rfl rfl rfl ty181 (by decide)
theorem fld228_1 : Fld Tryz.prog 228 1 1 177 := fld_of Tryz.underlying228 rfl rfl rfl ty177 (by decide)
theorem fld231_1 : Fld Tryz.prog 231 1 1 111 := fld_of Tryz.underlying231 rfl rfl rfl ty111 (by decide)
theorem fld235_1 : Fld Tryz.prog 235 1 1 130 := fld_of Tryz.underlying235 rfl rfl rfl ty130 (by decide)
theorem fld239_1 : Fld Tryz.prog 239 1 1 149 := fld_of Tryz.underlying239 rfl rfl rfl ty149 (by decide)
theorem fld243_1 : Fld Tryz.prog 243 1 1 167 := fld_of Tryz.underlying243 rfl rfl rfl ty167 (by decide)
theorem fld247_1 : Fld Tryz.prog 247 1 1 186 := fld_of Tryz.underlying247 rfl rfl rfl ty186 (by decide)
theorem fld273_0 : Fld Tryz.prog 273 0 0 87 := fld_of Tryz.underlying273 rfl rfl rfl ty87 (by decide)
theorem fld275_0 : Fld Tryz.prog 275 0 0 87 := fld_of Tryz.underlying275 rfl rfl rfl ty87 (by decide)
theorem fld277_0 : Fld Tryz.prog 277 0 0 87 := fld_of Tryz.underlying277 rfl rfl rfl ty87 (by decide)
theorem fld279_0 : Fld Tryz.prog 279 0 0 87 := fld_of Tryz.underlying279 rfl rfl rfl ty87 (by decide)
theorem fld281_0 : Fld Tryz.prog 281 0 0 87 := fld_of Tryz.underlying281 rfl rfl rfl ty87 (by decide)
theorem crHit {base : Nat} {K : KE} {X : Hp} {l r : List (List UInt8)} {id : List UInt8} {ov e lv : Value} {L Y : Hp} (h : hit K.stop id = true) (ho : OwL base lv L ((l ++ [id]) ++ [dash id])) (hY : ∀ b o, (b, o) ∈ Y → base ≤ b) (he : if hit K.stop id && K.fail then ∃ k u, e = .iface k u else e = .nilIface) :
  CR base K X l (id :: r) ov (.tuple #[ov, META, e]) [CS K.cb lv K.stop K.fail, L, KB K.kb false, X, Y] := by
 unfold CR
 rw [Tr_hit h]
 exact ⟨lv, L, Y, e, rfl, rfl, by simpa using ho, hY, by rw [h] at he; exact he⟩
theorem crMiss {base : Nat} {K : KE} {X : Hp} {l r : List (List UInt8)} {id : List UInt8} {ov e lv : Value} {L Y : Hp} (h : hit K.stop id = false) (ho : OwL base lv L (((l ++ [id]) ++ (Tr K.stop r).1) ++ [dash id])) (hY : ∀ b o, (b, o) ∈ Y → base ≤ b) (he : ErrOk e (!(Tr K.stop r).2) K.fail) :
  CR base K X l (id :: r) ov (.tuple #[ov, META, e]) [CS K.cb lv K.stop K.fail, L, KB K.kb (Tr K.stop r).2, X, Y] := by
 unfold CR
 rw [Tr_miss h]
 exact ⟨lv, L, Y, e, rfl, rfl, by simpa using ho, hY, he⟩
theorem crSame {base : Nat} {K : KE} {X : Hp} {l ids : List (List UInt8)} {ov ov' e lv : Value} {L Y : Hp} (ho : OwL base lv L (l ++ (Tr K.stop ids).1)) (hY : ∀ b o, (b, o) ∈ Y → base ≤ b) (he : ErrOk e (!(Tr K.stop ids).2) K.fail) :
  CR base K X l ids ov (.tuple #[ov, META, e]) [CS K.cb lv K.stop K.fail, L, KB K.kb (Tr K.stop ids).2, X, Y] := ⟨lv, L, Y, e, rfl, rfl, ho, hY, he⟩
theorem inner0 (base : Nat) (K : KE) (b3 q : Nat) (id : List UInt8) (r : List (List UInt8)) (X Y : Hp) (h : Value) (hi : id.length ≤ 100000) (hX3 : (b3, Obj.cells #[Pt K.cb 0] 54 (0, 0)) ∈ X) (hXq : (q, Obj.cells #[S id] 9 (0, 0)) ∈ X) (hY : ∀ b o, (b, o) ∈ Y → base ≤ b) (hd : HD base K "HandleInitialize" (.agg #[.nilIface]) X Y h (.agg #[.nilIface]) r) (l : List (List UInt8)) (lv : Value) (L : Hp) (ho : OwL base lv L l) (hl : l.length + 2 * (id :: r).length ≤ 100000) : FnW Tryz.prog 52 [CTX, .agg #[.nilIface], h, Pt b3 0, Pt q 0] base [CS K.cb lv K.stop K.fail, L, KB K.kb false, X, Y] (CR base K X l (id :: r) (.agg #[.nilIface])) := by
 have hl2 : l.length + 2 * (r.length + 1) ≤ 100000 := hl
 have hTr := Tr_len K.stop r
 obtain ⟨hf, ha, hiH, hC⟩ := hd
 refine FnW.enter (n := 43) Tryz.func52 rfl rfl fun w0 R0 hbase => ?_
 subst hbase
 show WC _ _ _ _ _ _ _ ([CS K.cb lv K.stop K.fail, L, KB K.kb false, X, Y, R0])
 refine WC.sub (fr' := [(0, _), (1, _), (2, _), (3, _), (4, _)]) ?_ ⟨rfl, rfl, rfl, rfl, rfl, trivial⟩
 refine WC.seq (WC.region ?_)
 refine WL.box rfl rfl rfl fun o6 ho6 => ?_
 refine WL.alloc ty105 rfl rfl fun o8 ho8 => ?_
 refine WL.alloc ty59 rfl rfl fun o9 ho9 => ?_
 refine WL.q (oq_assign rfl) rfl rfl rfl ?_
 refine WL.nil (WE.then_normal (WC.sub (fr' := [(0, _), (2, _), (3, _), (4, _), (6, _), (8, _), (9, _)]) ?_ ⟨rfl, rfl, rfl, rfl, rfl, rfl, rfl, trivial⟩))
 refine WC.seq (WC.seq (WC.region ?_))
 refine WL.q (oq_load flat54 rfl (.tail _ (.tail _ (.tail _ (.tail _ (.tail _ (.tail _ (.head _))))))) (hX3) rfl) rfl rfl rfl ?_
 refine WL.q (oq_load flat9 rfl (.tail _ (.tail _ (.tail _ (.tail _ (.tail _ (.tail _ (.head _))))))) (hXq) rfl) rfl rfl rfl ?_
 refine WL.f4 ?_
 refine WL.f4 ?_
 refine WL.callW2 (enter _ K.cb lv L l K.stop K.fail ho (by omega) id) call53 rfl rfl rfl fun v1_2 Hs1_2 hR1_2 => ?_
 obtain ⟨lv1, L1, e1, rfl, ho1, rfl, he1⟩ := hR1_2
 refine WL.to2 ?_
 refine WL.q (oq_move rfl) rfl rfl rfl ?_
 refine WL.q (oq_extract rfl rfl) rfl rfl rfl ?_
 refine WL.q (oq_extract rfl rfl) rfl rfl rfl ?_
 refine WL.q (oq_assign rfl) rfl rfl rfl ?_
 refine WL.q (oq_assign rfl) rfl rfl rfl ?_
 refine WL.nil (WE.then_normal (WC.sub (fr' := [(0, _), (2, _), (3, _), (4, _), (6, _), (8, _), (9, _), (11, _), (12, _)]) ?_ ⟨rfl, rfl, rfl, rfl, rfl, rfl, rfl, rfl, rfl, trivial⟩))
 refine WC.seq (WC.region ?_)
 refine WL.q (oq_move rfl) rfl rfl rfl ?_
 refine WL.nil (WE.then_normal (WC.sub (fr' := [(0, _), (2, _), (3, _), (4, _), (6, _), (8, _), (9, _), (12, _), (22, _)]) ?_ ⟨rfl, rfl, rfl, rfl, rfl, rfl, rfl, rfl, rfl, trivial⟩))
 refine WC.cond rfl (fun q2 => ?_) (fun q2 => ?_)
 ·
  try simp only [Z1, Z2, Z3, Z4, Z5, Z6, Z7, Z8, Z9, Z0] at q2
  refine WC.seq (WC.region ?_)
  refine WL.q (oq_load flat54 rfl (.tail _ (.tail _ (.tail _ (.tail _ (.tail _ (.tail _ (.head _))))))) (hX3) rfl) rfl rfl rfl ?_
  refine WL.q (oq_load flat9 rfl (.tail _ (.tail _ (.tail _ (.tail _ (.tail _ (.tail _ (.head _))))))) (hXq) rfl) rfl rfl rfl ?_
  refine WL.f1 ?_
  refine WL.f1 ?_
  refine WL.callW2 (leave _ K.cb lv1 L1 (l ++ [id]) K.stop K.fail ho1 (by simp only [List.length_append, List.length_cons, List.length_nil]; omega) id hi) call54 rfl rfl rfl fun v3_2 Hs3_2 hR3_2 => ?_
  obtain ⟨lv3, L3, rfl, ho3, rfl⟩ := hR3_2
  refine WL.to2 ?_
  refine WL.nil (WE.then_normal (WC.sub (fr' := [(8, _), (9, _), (12, _)]) ?_ ⟨rfl, rfl, rfl, trivial⟩))
  refine WC.seq (WC.region ?_)
  refine WL.q (oq_build #[_] str105 ty105 rfl rfl) rfl rfl rfl ?_
  refine WL.q (oq_build #[_] str59 ty59 rfl rfl) rfl rfl rfl ?_
  refine WL.q (oq_move rfl) rfl rfl rfl ?_
  refine WL.f3 ?_
  refine WL.storeS #[_] ty105 rfl rfl rfl rfl (Nat.le_of_ble_eq_true rfl) rfl rfl ?_
  refine WL.f3 ?_
  refine WL.storeS #[_] ty59 rfl rfl rfl rfl (Nat.le_of_ble_eq_true rfl) rfl rfl ?_
  refine WL.q (oq_assign rfl) rfl rfl rfl ?_
  refine WL.nil (WE.then_normal (WC.sub (fr' := [(8, _), (9, _), (10, _)]) ?_ ⟨rfl, rfl, rfl, trivial⟩))
  refine WC.ret (WE.then_ret ?_)
  refine WE.endDW [_, _, _, _, _] (.inl rfl) (rs3 Tryz.results52 (rv_cellS [_] agg105 ty105 rfl (.tail _ (.head _)) (List.mem_singleton.2 rfl) rfl rfl) (rv_cellS [_] agg59 ty59 rfl (.head _) (List.mem_singleton.2 rfl) rfl rfl) (rv_tmp rfl)) (dr_lose ho9 (dr_lose ho8 (dr_f2 (dr_lose ho6 dr_refl)))) ?_
  exact crHit q2 ho3 hY he1
 ·
  try simp only [Z1, Z2, Z3, Z4, Z5, Z6, Z7, Z8, Z9, Z0] at q2
  refine WC.skip (WE.then_normal (WC.sub (fr' := [(0, _), (2, _), (3, _), (4, _), (6, _), (8, _), (9, _)]) ?_ ⟨rfl, rfl, rfl, rfl, rfl, rfl, rfl, trivial⟩))
  refine WC.seq (WC.region ?_)
  refine WL.q (oq_move rfl) rfl rfl rfl ?_
  refine WL.q (oq_move rfl) rfl rfl rfl ?_
  refine WL.q (oq_loadS [_] agg101 ty101 rfl (.tail _ (.tail _ (.tail _ (.tail _ (.head _))))) (List.mem_singleton.2 rfl) rfl rfl) rfl rfl rfl ?_
  refine WL.f7 ?_
  refine WL.f7 ?_
  refine WL.f7 ?_
  refine WL.f4 ?_
  refine WL.f4 ?_
  refine WL.callWF (fun a w hf hw => ent_invH (hiH) (.tail _ (.tail _ (.tail _ (.tail _ (.head _))))) rfl rfl a w hf hw) (hC (l ++ [id]) lv1 L1 ho1 (by simp only [List.length_append, List.length_cons, List.length_nil]; omega)) rfl rfl rfl rfl fun v5_3 Hs5_3 hR5_3 => ?_
  obtain ⟨lv2, L2, Y2, e2, rfl, rfl, ho2, hY2, he2⟩ := hR5_3
  refine WL.app5 ?_
  refine WL.q (oq_move rfl) rfl rfl rfl ?_
  refine WL.q (oq_extract rfl rfl) rfl rfl rfl ?_
  refine WL.q (oq_extract rfl rfl) rfl rfl rfl ?_
  refine WL.q (oq_extract rfl rfl) rfl rfl rfl ?_
  refine WL.alloc ty105 rfl rfl fun o13 ho13 => ?_
  refine WL.alloc ty59 rfl rfl fun o14 ho14 => ?_
  refine WL.f1 ?_
  refine WL.storeS #[_] ty105 rfl rfl rfl rfl (Nat.le_of_ble_eq_true rfl) rfl rfl ?_
  refine WL.f1 ?_
  refine WL.storeS #[_] ty59 rfl rfl rfl rfl (Nat.le_of_ble_eq_true rfl) rfl rfl ?_
  refine WL.q (oq_assign rfl) rfl rfl rfl ?_
  refine WL.nil (WE.then_normal (WC.sub (fr' := [(3, _), (4, _), (8, _), (9, _), (13, _), (14, _), (15, _)]) ?_ ⟨rfl, rfl, rfl, rfl, rfl, rfl, rfl, trivial⟩))
  refine WC.seq (WC.region ?_)
  refine WL.q (oq_load flat54 rfl (.tail _ (.tail _ (.tail _ (.tail _ (.tail _ (.head _)))))) (hX3) rfl) rfl rfl rfl ?_
  refine WL.q (oq_load flat9 rfl (.tail _ (.tail _ (.tail _ (.tail _ (.tail _ (.head _)))))) (hXq) rfl) rfl rfl rfl ?_
  refine WL.f3 ?_
  refine WL.f3 ?_
  refine WL.callW2 (leave _ K.cb lv2 L2 ((l ++ [id]) ++ (Tr K.stop r).1) K.stop K.fail ho2 (by simp only [List.length_append, List.length_cons, List.length_nil]; omega) id hi) call54 rfl rfl rfl fun v6_2 Hs6_2 hR6_2 => ?_
  obtain ⟨lv3, L3, rfl, ho3, rfl⟩ := hR6_2
  refine WL.to2 ?_
  refine WL.nil (WE.then_normal (WC.sub (fr' := [(8, _), (9, _), (13, _), (14, _), (15, _)]) ?_ ⟨rfl, rfl, rfl, rfl, rfl, trivial⟩))
  refine WC.seq ?_
  refine WC.f2 ?_
  refine WC.f3 ?_
  refine WC.cat ?_
  refine WC.gate 4 (([(o13, Obj.cells #[.nilIface] 105 (0, 0))] ++ [(o14, Obj.cells #[.map none] 59 (0, 0))])) (by kernel_rfl) ?_
  refine WG.q 0 [] rfl (.head _) (fun w0 => oq_loadS [_] agg105 ty105 rfl (.head _) (List.mem_append_left _ (List.mem_singleton.2 rfl)) rfl rfl) rfl rfl rfl ?_
  refine WG.q 1 [] rfl (.head _) (fun w0 => oq_loadS [_] agg59 ty59 rfl (.head _) (List.mem_append_right _ (List.mem_singleton.2 rfl)) rfl rfl) rfl rfl rfl ?_
  refine WG.p 2 rfl (.inr (.head _)) (fun w0 => oq_move rfl) rfl rfl rfl ?_
  refine WG.step (i := 3) (by kernel_rfl) rfl ?_
  refine WL.f7 ?_
  refine WL.storeS #[_] ty105 rfl rfl rfl rfl (Nat.le_of_ble_eq_true rfl) rfl rfl ?_
  refine WL.nil ?_
  refine WE.toG (.tail _ (.head _)) ?_
  refine WG.step (i := 4) (by kernel_rfl) rfl ?_
  refine WL.f7 ?_
  refine WL.storeS #[_] ty59 rfl rfl rfl rfl (Nat.le_of_ble_eq_true rfl) rfl rfl ?_
  refine WL.nil ?_
  refine WE.toG0 (by kernel_rfl) ?_
  refine WG.p 5 rfl (.inl (by kernel_rfl)) (fun w0 => oq_assign rfl) rfl rfl rfl ?_
  refine WG.done (by kernel_rfl) ?_
  refine WE.then_normal (WC.sub (fr' := [(8, _), (9, _), (10, _)]) ?_ ⟨rfl, rfl, rfl, trivial⟩)
  refine WC.ret ?_
  refine WE.endDW [_, _, _, _, _] (.inl rfl) (rs3 Tryz.results52 (rv_cellS [_] agg105 ty105 rfl (.tail _ (.head _)) (List.mem_singleton.2 rfl) rfl rfl) (rv_cellS [_] agg59 ty59 rfl (.head _) (List.mem_singleton.2 rfl) rfl rfl) (rv_tmp rfl)) (dr_lose ho9 (dr_lose ho8 (dr_forget (fresh_cat (fresh1 ho13) (fresh1 ho14)) (dr_f5 (dr_lose ho6 dr_refl))))) ?_
  exact crMiss (by first | exact q2 | simpa using q2) ho3 hY2 he2
theorem mfh0 (base : Nat) (K : KE) (X Y : Hp) (b3 q : Nat) (id : List UInt8) (ids : List (List UInt8)) (h : Value) (hY : ∀ b o, (b, o) ∈ Y → base ≤ b) (hC : HC base K 52 [CTX, .agg #[.nilIface], h, Pt b3 0, Pt q 0] X Y (.agg #[.nilIface]) ids) (l : List (List UInt8)) (lv : Value) (L : Hp) (ho : OwL base lv L l) (hl : l.length + 2 * ids.length ≤ 100000) : FnW Tryz.prog 154 [.agg #[S id, FVN 0 b3 q], CTX, .agg #[.nilIface], h] base [CS K.cb lv K.stop K.fail, L, KB K.kb false, X, Y] (CR base K X l ids (.agg #[.nilIface])) := by
 refine FnW.enter (n := 20) Tryz.func154 rfl rfl fun w0 R0 hbase => ?_
 subst hbase
 show WC _ _ _ _ _ _ _ ([CS K.cb lv K.stop K.fail, L, KB K.kb false, X, Y, R0])
 refine WC.sub (fr' := [(0, _), (1, _), (2, _), (3, _)]) ?_ ⟨rfl, rfl, rfl, rfl, trivial⟩
 refine WC.seq (WC.region ?_)
 refine WL.box rfl rfl rfl fun o4 ho4 => ?_
 refine WL.box rfl rfl rfl fun o6 ho6 => ?_
 refine WL.alloc ty105 rfl rfl fun o8 ho8 => ?_
 refine WL.alloc ty59 rfl rfl fun o9 ho9 => ?_
 refine WL.q (oq_assign rfl) rfl rfl rfl ?_
 refine WL.nil (WE.then_normal (WC.sub (fr' := [(1, _), (3, _), (4, _), (6, _), (8, _), (9, _)]) ?_ ⟨rfl, rfl, rfl, rfl, rfl, rfl, trivial⟩))
 refine WC.seq (WC.region ?_)
 refine WL.q (oq_fieldAddr fld231_1 rfl) rfl rfl rfl ?_
 refine WL.q (oq_load flat111 rfl (.tail _ (.tail _ (.tail _ (.head _)))) (List.mem_singleton.2 rfl) rfl) rfl rfl rfl ?_
 refine WL.q (oq_move rfl) rfl rfl rfl ?_
 refine WL.q (oq_loadS [_] agg101 ty101 rfl (.tail _ (.tail _ (.head _))) (List.mem_singleton.2 rfl) rfl rfl) rfl rfl rfl ?_
 refine WL.q (oq_move rfl) rfl rfl rfl ?_
 refine WL.f8 ?_
 refine WL.f8 ?_
 refine WL.f8 ?_
 refine WL.f8 ?_
 refine WL.f8 ?_
 refine WL.callWE (args := [CTX, .agg #[.nilIface], h, Pt b3 0, Pt q 0]) (fun a w hf => run_enterv (first := []) (vs := [CTX, .agg #[.nilIface], h]) (cap := [Pt b3 0, Pt q 0]) call52 rfl rfl hf w) (hC l lv L ho hl) rfl rfl rfl rfl fun v1_5 Hs1_5 hR1_5 => ?_
 obtain ⟨lv2, L2, Y2, e2, rfl, rfl, ho2, hY2, he2⟩ := hR1_5
 refine WL.app5 ?_
 refine WL.q (oq_extract rfl rfl) rfl rfl rfl ?_
 refine WL.q (oq_extract rfl rfl) rfl rfl rfl ?_
 refine WL.q (oq_extract rfl rfl) rfl rfl rfl ?_
 refine WL.f6 ?_
 refine WL.storeS #[_] ty105 rfl rfl rfl rfl (Nat.le_of_ble_eq_true rfl) rfl rfl ?_
 refine WL.f6 ?_
 refine WL.storeS #[_] ty59 rfl rfl rfl rfl (Nat.le_of_ble_eq_true rfl) rfl rfl ?_
 refine WL.q (oq_assign rfl) rfl rfl rfl ?_
 refine WL.nil (WE.then_normal (WC.sub (fr' := [(8, _), (9, _), (10, _)]) ?_ ⟨rfl, rfl, rfl, trivial⟩))
 refine WC.ret ?_
 refine WE.endDW [_, _, _, _, _] (.inl rfl) (rs3 Tryz.results154 (rv_cellS [_] agg105 ty105 rfl (.tail _ (.head _)) (List.mem_singleton.2 rfl) rfl rfl) (rv_cellS [_] agg59 ty59 rfl (.head _) (List.mem_singleton.2 rfl) rfl rfl) (rv_tmp rfl)) (dr_lose ho9 (dr_lose ho8 (dr_f5 (dr_lose ho6 (dr_f5 (dr_lose ho4 dr_refl)))))) ?_
 exact crSame (ov' := .nilIface) ho2 hY2 he2
theorem dech0 (base : Nat) (K : KE) (X Y : Hp) (b3 q : Nat) (id : List UInt8) (ids : List (List UInt8)) (h : Value) (hY : ∀ b o, (b, o) ∈ Y → base ≤ b) (hC : HC base K 154 [.agg #[S id, FVN 0 b3 q], CTX, .agg #[.nilIface], h] X Y (.agg #[.nilIface]) ids) (l : List (List UInt8)) (lv : Value) (L : Hp) (ho : OwL base lv L l) (hl : l.length + 2 * ids.length ≤ 100000) : FnW Tryz.prog 149 [.agg #[h, .iface 231 (.agg #[S id, FVN 0 b3 q])], CTX, .agg #[.nilIface]] base [CS K.cb lv K.stop K.fail, L, KB K.kb false, X, Y] (CR base K X l ids (.agg #[.nilIface])) := by
 refine FnW.enter (n := 19) Tryz.func149 rfl rfl fun w0 R0 hbase => ?_
 subst hbase
 show WC _ _ _ _ _ _ _ ([CS K.cb lv K.stop K.fail, L, KB K.kb false, X, Y, R0])
 refine WC.sub (fr' := [(0, _), (1, _), (2, _)]) ?_ ⟨rfl, rfl, rfl, trivial⟩
 refine WC.seq (WC.region ?_)
 refine WL.box rfl rfl rfl fun o3 ho3 => ?_
 refine WL.box rfl rfl rfl fun o5 ho5 => ?_
 refine WL.alloc ty105 rfl rfl fun o6 ho6 => ?_
 refine WL.alloc ty59 rfl rfl fun o7 ho7 => ?_
 refine WL.q (oq_assign rfl) rfl rfl rfl ?_
 refine WL.nil (WE.then_normal (WC.sub (fr' := [(1, _), (3, _), (5, _), (6, _), (7, _)]) ?_ ⟨rfl, rfl, rfl, rfl, rfl, trivial⟩))
 refine WC.seq (WC.region ?_)
 refine WL.q (oq_fieldAddr fld204_1 rfl) rfl rfl rfl ?_
 refine WL.q (oq_load flat98 rfl (.tail _ (.tail _ (.tail _ (.head _)))) (List.mem_singleton.2 rfl) rfl) rfl rfl rfl ?_
 refine WL.q (oq_move rfl) rfl rfl rfl ?_
 refine WL.q (oq_loadS [_] agg101 ty101 rfl (.tail _ (.tail _ (.head _))) (List.mem_singleton.2 rfl) rfl rfl) rfl rfl rfl ?_
 refine WL.q (oq_fieldAddr fld204_0 rfl) rfl rfl rfl ?_
 refine WL.q (oq_load flat103 rfl (.tail _ (.tail _ (.tail _ (.head _)))) (List.mem_singleton.2 rfl) rfl) rfl rfl rfl ?_
 refine WL.f8 ?_
 refine WL.f8 ?_
 refine WL.f8 ?_
 refine WL.f8 ?_
 refine WL.f8 ?_
 refine WL.callWF (fun a w hf hw => ent_invH ((fun w _ => by kernel_rfl : InvH Tryz.prog Y "HandleInitialize" (.iface 231 (.agg #[S id, FVN 0 b3 q])) [CTX, .agg #[.nilIface], h] 154 [.agg #[S id, FVN 0 b3 q], CTX, .agg #[.nilIface], h])) (.tail _ (.tail _ (.tail _ (.tail _ (.head _))))) rfl rfl a w hf hw) (hC l lv L ho hl) rfl rfl rfl rfl fun v1_6 Hs1_6 hR1_6 => ?_
 obtain ⟨lv2, L2, Y2, e2, rfl, rfl, ho2, hY2, he2⟩ := hR1_6
 refine WL.app5 ?_
 refine WL.q (oq_extract rfl rfl) rfl rfl rfl ?_
 refine WL.q (oq_extract rfl rfl) rfl rfl rfl ?_
 refine WL.q (oq_extract rfl rfl) rfl rfl rfl ?_
 refine WL.f6 ?_
 refine WL.storeS #[_] ty105 rfl rfl rfl rfl (Nat.le_of_ble_eq_true rfl) rfl rfl ?_
 refine WL.f6 ?_
 refine WL.storeS #[_] ty59 rfl rfl rfl rfl (Nat.le_of_ble_eq_true rfl) rfl rfl ?_
 refine WL.q (oq_assign rfl) rfl rfl rfl ?_
 refine WL.nil (WE.then_normal (WC.sub (fr' := [(6, _), (7, _), (8, _)]) ?_ ⟨rfl, rfl, rfl, trivial⟩))
 refine WC.ret ?_
 refine WE.endDW [_, _, _, _, _] (.inl rfl) (rs3 Tryz.results149 (rv_cellS [_] agg105 ty105 rfl (.tail _ (.head _)) (List.mem_singleton.2 rfl) rfl rfl) (rv_cellS [_] agg59 ty59 rfl (.head _) (List.mem_singleton.2 rfl) rfl rfl) (rv_tmp rfl)) (dr_lose ho7 (dr_lose ho6 (dr_f5 (dr_lose ho5 (dr_f5 (dr_lose ho3 dr_refl)))))) ?_
 exact crSame (ov' := .nilIface) ho2 hY2 he2
theorem wrh0 (base : Nat) (K : KE) (X Y : Hp) (ids : List (List UInt8)) (h : Value) (hY : ∀ b o, (b, o) ∈ Y → base ≤ b) (hd : HD base K "Handle" .nilIface X Y h .nilIface ids) (l : List (List UInt8)) (lv : Value) (L : Hp) (ho : OwL base lv L l) (hl : l.length + 2 * ids.length ≤ 100000) : FnW Tryz.prog 167 [.agg #[h], CTX, .agg #[.nilIface]] base [CS K.cb lv K.stop K.fail, L, KB K.kb false, X, Y] (CR base K X l ids (.agg #[.nilIface])) := by
 obtain ⟨hf, ha, hiH, hC⟩ := hd
 refine FnW.enter (n := 24) Tryz.func167 rfl rfl fun w0 R0 hbase => ?_
 subst hbase
 show WC _ _ _ _ _ _ _ ([CS K.cb lv K.stop K.fail, L, KB K.kb false, X, Y, R0])
 refine WC.sub (fr' := [(0, _), (1, _), (2, _)]) ?_ ⟨rfl, rfl, rfl, trivial⟩
 refine WC.seq (WC.region ?_)
 refine WL.box rfl rfl rfl fun o3 ho3 => ?_
 refine WL.box rfl rfl rfl fun o5 ho5 => ?_
 refine WL.alloc ty105 rfl rfl fun o6 ho6 => ?_
 refine WL.alloc ty59 rfl rfl fun o7 ho7 => ?_
 refine WL.q (oq_assign rfl) rfl rfl rfl ?_
 refine WL.nil (WE.then_normal (WC.sub (fr' := [(1, _), (3, _), (5, _), (6, _), (7, _)]) ?_ ⟨rfl, rfl, rfl, rfl, rfl, trivial⟩))
 refine WC.seq (WC.region ?_)
 refine WL.q (oq_fieldAddr fld273_0 rfl) rfl rfl rfl ?_
 refine WL.q (oq_load flat87 rfl (.tail _ (.tail _ (.tail _ (.head _)))) (List.mem_singleton.2 rfl) rfl) rfl rfl rfl ?_
 refine WL.q (oq_move rfl) rfl rfl rfl ?_
 refine WL.q (oq_fieldAddr fld101_0 rfl) rfl rfl rfl ?_
 refine WL.q (oq_load flat20 rfl (.tail _ (.tail _ (.head _))) (List.mem_singleton.2 rfl) rfl) rfl rfl rfl ?_
 refine WL.f8 ?_
 refine WL.f8 ?_
 refine WL.f8 ?_
 refine WL.f8 ?_
 refine WL.f8 ?_
 refine WL.callWF (fun a w hf hw => ent_invH (hiH) (.tail _ (.tail _ (.tail _ (.tail _ (.head _))))) rfl rfl a w hf hw) (hC l lv L ho hl) rfl rfl rfl rfl fun v1_5 Hs1_5 hR1_5 => ?_
 obtain ⟨lv2, L2, Y2, e2, rfl, rfl, ho2, hY2, he2⟩ := hR1_5
 refine WL.app5 ?_
 refine WL.q (oq_move rfl) rfl rfl rfl ?_
 refine WL.q (oq_extract rfl rfl) rfl rfl rfl ?_
 refine WL.q (oq_extract rfl rfl) rfl rfl rfl ?_
 refine WL.q (oq_extract rfl rfl) rfl rfl rfl ?_
 refine WL.q (oq_assign rfl) rfl rfl rfl ?_
 refine WL.f5 ?_
 refine WL.storeS #[_] ty59 rfl rfl rfl rfl (Nat.le_of_ble_eq_true rfl) rfl rfl ?_
 refine WL.q (oq_assign rfl) rfl rfl rfl ?_
 refine WL.nil (WE.then_normal (WC.sub (fr' := [(6, _), (7, _), (8, _), (9, _)]) ?_ ⟨rfl, rfl, rfl, rfl, trivial⟩))
 refine WC.seq ?_
 refine WC.gate 5 ([(o7, Obj.cells #[.map none] 59 (0, 0))]) (by kernel_rfl) ?_
 refine WG.q 0 [] rfl (.head _) (fun w0 => oq_move rfl) rfl rfl rfl ?_
 refine WG.q 1 [] rfl (.head _) (fun w0 => oq_build #[_] str105 ty105 rfl rfl) rfl rfl rfl ?_
 refine WG.q 2 [] rfl (.head _) (fun w0 => oq_loadS [_] agg59 ty59 rfl (.head _) (List.mem_singleton.2 rfl) rfl rfl) rfl rfl rfl ?_
 refine WG.p 3 rfl (.inr (.head _)) (fun w0 => oq_move rfl) rfl rfl rfl ?_
 refine WG.step (i := 4) (by kernel_rfl) rfl ?_
 refine WL.f6 ?_
 refine WL.storeS #[_] ty105 rfl rfl rfl rfl (Nat.le_of_ble_eq_true rfl) rfl rfl ?_
 refine WL.nil ?_
 refine WE.toG (.tail _ (.head _)) ?_
 refine WG.step (i := 5) (by kernel_rfl) rfl ?_
 refine WL.f1 ?_
 refine WL.storeS #[_] ty59 rfl rfl rfl rfl (Nat.le_of_ble_eq_true rfl) rfl rfl ?_
 refine WL.nil ?_
 refine WE.toG0 (by kernel_rfl) ?_
 refine WG.p 6 rfl (.inl (by kernel_rfl)) (fun w0 => oq_assign rfl) rfl rfl rfl ?_
 refine WG.done (by kernel_rfl) ?_
 refine WE.then_normal (WC.sub (fr' := [(6, _), (7, _), (8, _)]) ?_ ⟨rfl, rfl, rfl, trivial⟩)
 refine WC.ret ?_
 refine WE.endDW [_, _, _, _, _] (.inl rfl) (rs3 Tryz.results167 (rv_cellS [_] agg105 ty105 rfl (.tail _ (.head _)) (List.mem_singleton.2 rfl) rfl rfl) (rv_cellS [_] agg59 ty59 rfl (.head _) (List.mem_singleton.2 rfl) rfl rfl) (rv_tmp rfl)) (dr_lose ho7 (dr_lose ho6 (dr_f5 (dr_lose ho5 (dr_f5 (dr_lose ho3 dr_refl)))))) ?_
 exact crSame (ov' := .nilIface) ho2 hY2 he2
theorem inner1 (base : Nat) (K : KE) (b3 q : Nat) (id : List UInt8) (r : List (List UInt8)) (X Y : Hp) (h : Value) (hi : id.length ≤ 100000) (hX3 : (b3, Obj.cells #[Pt K.cb 0] 54 (0, 0)) ∈ X) (hXq : (q, Obj.cells #[S id] 9 (0, 0)) ∈ X) (hY : ∀ b o, (b, o) ∈ Y → base ≤ b) (hd : HD base K "HandleSerialize" (.agg #[.nilIface, .nilIface]) X Y h (.agg #[.nilIface]) r) (l : List (List UInt8)) (lv : Value) (L : Hp) (ho : OwL base lv L l) (hl : l.length + 2 * (id :: r).length ≤ 100000) : FnW Tryz.prog 68 [CTX, .agg #[.nilIface, .nilIface], h, Pt b3 0, Pt q 0] base [CS K.cb lv K.stop K.fail, L, KB K.kb false, X, Y] (CR base K X l (id :: r) (.agg #[.nilIface])) := by
 have hl2 : l.length + 2 * (r.length + 1) ≤ 100000 := hl
 have hTr := Tr_len K.stop r
 obtain ⟨hf, ha, hiH, hC⟩ := hd
 refine FnW.enter (n := 43) Tryz.func68 rfl rfl fun w0 R0 hbase => ?_
 subst hbase
 show WC _ _ _ _ _ _ _ ([CS K.cb lv K.stop K.fail, L, KB K.kb false, X, Y, R0])
 refine WC.sub (fr' := [(0, _), (1, _), (2, _), (3, _), (4, _)]) ?_ ⟨rfl, rfl, rfl, rfl, rfl, trivial⟩
 refine WC.seq (WC.region ?_)
 refine WL.box rfl rfl rfl fun o6 ho6 => ?_
 refine WL.alloc ty127 rfl rfl fun o8 ho8 => ?_
 refine WL.alloc ty59 rfl rfl fun o9 ho9 => ?_
 refine WL.q (oq_assign rfl) rfl rfl rfl ?_
 refine WL.nil (WE.then_normal (WC.sub (fr' := [(0, _), (2, _), (3, _), (4, _), (6, _), (8, _), (9, _)]) ?_ ⟨rfl, rfl, rfl, rfl, rfl, rfl, rfl, trivial⟩))
 refine WC.seq (WC.seq (WC.region ?_))
 refine WL.q (oq_load flat54 rfl (.tail _ (.tail _ (.tail _ (.tail _ (.tail _ (.tail _ (.head _))))))) (hX3) rfl) rfl rfl rfl ?_
 refine WL.q (oq_load flat9 rfl (.tail _ (.tail _ (.tail _ (.tail _ (.tail _ (.tail _ (.head _))))))) (hXq) rfl) rfl rfl rfl ?_
 refine WL.f4 ?_
 refine WL.f4 ?_
 refine WL.callW2 (enter _ K.cb lv L l K.stop K.fail ho (by omega) id) call53 rfl rfl rfl fun v1_2 Hs1_2 hR1_2 => ?_
 obtain ⟨lv1, L1, e1, rfl, ho1, rfl, he1⟩ := hR1_2
 refine WL.to2 ?_
 refine WL.q (oq_move rfl) rfl rfl rfl ?_
 refine WL.q (oq_extract rfl rfl) rfl rfl rfl ?_
 refine WL.q (oq_extract rfl rfl) rfl rfl rfl ?_
 refine WL.q (oq_assign rfl) rfl rfl rfl ?_
 refine WL.q (oq_assign rfl) rfl rfl rfl ?_
 refine WL.nil (WE.then_normal (WC.sub (fr' := [(0, _), (2, _), (3, _), (4, _), (6, _), (8, _), (9, _), (11, _), (12, _)]) ?_ ⟨rfl, rfl, rfl, rfl, rfl, rfl, rfl, rfl, rfl, trivial⟩))
 refine WC.seq (WC.region ?_)
 refine WL.q (oq_move rfl) rfl rfl rfl ?_
 refine WL.nil (WE.then_normal (WC.sub (fr' := [(0, _), (2, _), (3, _), (4, _), (6, _), (8, _), (9, _), (12, _), (22, _)]) ?_ ⟨rfl, rfl, rfl, rfl, rfl, rfl, rfl, rfl, rfl, trivial⟩))
 refine WC.cond rfl (fun q2 => ?_) (fun q2 => ?_)
 ·
  try simp only [Z1, Z2, Z3, Z4, Z5, Z6, Z7, Z8, Z9, Z0] at q2
  refine WC.seq (WC.region ?_)
  refine WL.q (oq_load flat54 rfl (.tail _ (.tail _ (.tail _ (.tail _ (.tail _ (.tail _ (.head _))))))) (hX3) rfl) rfl rfl rfl ?_
  refine WL.q (oq_load flat9 rfl (.tail _ (.tail _ (.tail _ (.tail _ (.tail _ (.tail _ (.head _))))))) (hXq) rfl) rfl rfl rfl ?_
  refine WL.f1 ?_
  refine WL.f1 ?_
  refine WL.callW2 (leave _ K.cb lv1 L1 (l ++ [id]) K.stop K.fail ho1 (by simp only [List.length_append, List.length_cons, List.length_nil]; omega) id hi) call54 rfl rfl rfl fun v3_2 Hs3_2 hR3_2 => ?_
  obtain ⟨lv3, L3, rfl, ho3, rfl⟩ := hR3_2
  refine WL.to2 ?_
  refine WL.nil (WE.then_normal (WC.sub (fr' := [(8, _), (9, _), (12, _)]) ?_ ⟨rfl, rfl, rfl, trivial⟩))
  refine WC.seq (WC.region ?_)
  refine WL.q (oq_build #[_] str127 ty127 rfl rfl) rfl rfl rfl ?_
  refine WL.q (oq_build #[_] str59 ty59 rfl rfl) rfl rfl rfl ?_
  refine WL.q (oq_move rfl) rfl rfl rfl ?_
  refine WL.f3 ?_
  refine WL.storeS #[_] ty127 rfl rfl rfl rfl (Nat.le_of_ble_eq_true rfl) rfl rfl ?_
  refine WL.f3 ?_
  refine WL.storeS #[_] ty59 rfl rfl rfl rfl (Nat.le_of_ble_eq_true rfl) rfl rfl ?_
  refine WL.q (oq_assign rfl) rfl rfl rfl ?_
  refine WL.nil (WE.then_normal (WC.sub (fr' := [(8, _), (9, _), (10, _)]) ?_ ⟨rfl, rfl, rfl, trivial⟩))
  refine WC.ret (WE.then_ret ?_)
  refine WE.endDW [_, _, _, _, _] (.inl rfl) (rs3 Tryz.results68 (rv_cellS [_] agg127 ty127 rfl (.tail _ (.head _)) (List.mem_singleton.2 rfl) rfl rfl) (rv_cellS [_] agg59 ty59 rfl (.head _) (List.mem_singleton.2 rfl) rfl rfl) (rv_tmp rfl)) (dr_lose ho9 (dr_lose ho8 (dr_f2 (dr_lose ho6 dr_refl)))) ?_
  exact crHit q2 ho3 hY he1
 ·
  try simp only [Z1, Z2, Z3, Z4, Z5, Z6, Z7, Z8, Z9, Z0] at q2
  refine WC.skip (WE.then_normal (WC.sub (fr' := [(0, _), (2, _), (3, _), (4, _), (6, _), (8, _), (9, _)]) ?_ ⟨rfl, rfl, rfl, rfl, rfl, rfl, rfl, trivial⟩))
  refine WC.seq (WC.region ?_)
  refine WL.q (oq_move rfl) rfl rfl rfl ?_
  refine WL.q (oq_move rfl) rfl rfl rfl ?_
  refine WL.q (oq_loadS [_, _] agg124 ty124 rfl (.tail _ (.tail _ (.tail _ (.tail _ (.head _))))) (List.mem_singleton.2 rfl) rfl rfl) rfl rfl rfl ?_
  refine WL.f7 ?_
  refine WL.f7 ?_
  refine WL.f7 ?_
  refine WL.f4 ?_
  refine WL.f4 ?_
  refine WL.callWF (fun a w hf hw => ent_invH (hiH) (.tail _ (.tail _ (.tail _ (.tail _ (.head _))))) rfl rfl a w hf hw) (hC (l ++ [id]) lv1 L1 ho1 (by simp only [List.length_append, List.length_cons, List.length_nil]; omega)) rfl rfl rfl rfl fun v5_3 Hs5_3 hR5_3 => ?_
  obtain ⟨lv2, L2, Y2, e2, rfl, rfl, ho2, hY2, he2⟩ := hR5_3
  refine WL.app5 ?_
  refine WL.q (oq_move rfl) rfl rfl rfl ?_
  refine WL.q (oq_extract rfl rfl) rfl rfl rfl ?_
  refine WL.q (oq_extract rfl rfl) rfl rfl rfl ?_
  refine WL.q (oq_extract rfl rfl) rfl rfl rfl ?_
  refine WL.alloc ty127 rfl rfl fun o13 ho13 => ?_
  refine WL.alloc ty59 rfl rfl fun o14 ho14 => ?_
  refine WL.f1 ?_
  refine WL.storeS #[_] ty127 rfl rfl rfl rfl (Nat.le_of_ble_eq_true rfl) rfl rfl ?_
  refine WL.f1 ?_
  refine WL.storeS #[_] ty59 rfl rfl rfl rfl (Nat.le_of_ble_eq_true rfl) rfl rfl ?_
  refine WL.q (oq_assign rfl) rfl rfl rfl ?_
  refine WL.nil (WE.then_normal (WC.sub (fr' := [(3, _), (4, _), (8, _), (9, _), (13, _), (14, _), (15, _)]) ?_ ⟨rfl, rfl, rfl, rfl, rfl, rfl, rfl, trivial⟩))
  refine WC.seq (WC.region ?_)
  refine WL.q (oq_load flat54 rfl (.tail _ (.tail _ (.tail _ (.tail _ (.tail _ (.head _)))))) (hX3) rfl) rfl rfl rfl ?_
  refine WL.q (oq_load flat9 rfl (.tail _ (.tail _ (.tail _ (.tail _ (.tail _ (.head _)))))) (hXq) rfl) rfl rfl rfl ?_
  refine WL.f3 ?_
  refine WL.f3 ?_
  refine WL.callW2 (leave _ K.cb lv2 L2 ((l ++ [id]) ++ (Tr K.stop r).1) K.stop K.fail ho2 (by simp only [List.length_append, List.length_cons, List.length_nil]; omega) id hi) call54 rfl rfl rfl fun v6_2 Hs6_2 hR6_2 => ?_
  obtain ⟨lv3, L3, rfl, ho3, rfl⟩ := hR6_2
  refine WL.to2 ?_
  refine WL.nil (WE.then_normal (WC.sub (fr' := [(8, _), (9, _), (13, _), (14, _), (15, _)]) ?_ ⟨rfl, rfl, rfl, rfl, rfl, trivial⟩))
  refine WC.seq ?_
  refine WC.f2 ?_
  refine WC.f3 ?_
  refine WC.cat ?_
  refine WC.gate 4 (([(o13, Obj.cells #[.nilIface] 127 (0, 0))] ++ [(o14, Obj.cells #[.map none] 59 (0, 0))])) (by kernel_rfl) ?_
  refine WG.q 0 [] rfl (.head _) (fun w0 => oq_loadS [_] agg127 ty127 rfl (.head _) (List.mem_append_left _ (List.mem_singleton.2 rfl)) rfl rfl) rfl rfl rfl ?_
  refine WG.q 1 [] rfl (.head _) (fun w0 => oq_loadS [_] agg59 ty59 rfl (.head _) (List.mem_append_right _ (List.mem_singleton.2 rfl)) rfl rfl) rfl rfl rfl ?_
  refine WG.p 2 rfl (.inr (.head _)) (fun w0 => oq_move rfl) rfl rfl rfl ?_
  refine WG.step (i := 3) (by kernel_rfl) rfl ?_
  refine WL.f7 ?_
  refine WL.storeS #[_] ty127 rfl rfl rfl rfl (Nat.le_of_ble_eq_true rfl) rfl rfl ?_
  refine WL.nil ?_
  refine WE.toG (.tail _ (.head _)) ?_
  refine WG.step (i := 4) (by kernel_rfl) rfl ?_
  refine WL.f7 ?_
  refine WL.storeS #[_] ty59 rfl rfl rfl rfl (Nat.le_of_ble_eq_true rfl) rfl rfl ?_
  refine WL.nil ?_
  refine WE.toG0 (by kernel_rfl) ?_
  refine WG.p 5 rfl (.inl (by kernel_rfl)) (fun w0 => oq_assign rfl) rfl rfl rfl ?_
  refine WG.done (by kernel_rfl) ?_
  refine WE.then_normal (WC.sub (fr' := [(8, _), (9, _), (10, _)]) ?_ ⟨rfl, rfl, rfl, trivial⟩)
  refine WC.ret ?_
  refine WE.endDW [_, _, _, _, _] (.inl rfl) (rs3 Tryz.results68 (rv_cellS [_] agg127 ty127 rfl (.tail _ (.head _)) (List.mem_singleton.2 rfl) rfl rfl) (rv_cellS [_] agg59 ty59 rfl (.head _) (List.mem_singleton.2 rfl) rfl rfl) (rv_tmp rfl)) (dr_lose ho9 (dr_lose ho8 (dr_forget (fresh_cat (fresh1 ho13) (fresh1 ho14)) (dr_f5 (dr_lose ho6 dr_refl))))) ?_
  exact crMiss (by first | exact q2 | simpa using q2) ho3 hY2 he2
theorem mfh1 (base : Nat) (K : KE) (X Y : Hp) (b3 q : Nat) (id : List UInt8) (ids : List (List UInt8)) (h : Value) (hY : ∀ b o, (b, o) ∈ Y → base ≤ b) (hC : HC base K 68 [CTX, .agg #[.nilIface, .nilIface], h, Pt b3 0, Pt q 0] X Y (.agg #[.nilIface]) ids) (l : List (List UInt8)) (lv : Value) (L : Hp) (ho : OwL base lv L l) (hl : l.length + 2 * ids.length ≤ 100000) : FnW Tryz.prog 156 [.agg #[S id, FVN 1 b3 q], CTX, .agg #[.nilIface, .nilIface], h] base [CS K.cb lv K.stop K.fail, L, KB K.kb false, X, Y] (CR base K X l ids (.agg #[.nilIface])) := by
 refine FnW.enter (n := 20) Tryz.func156 rfl rfl fun w0 R0 hbase => ?_
 subst hbase
 show WC _ _ _ _ _ _ _ ([CS K.cb lv K.stop K.fail, L, KB K.kb false, X, Y, R0])
 refine WC.sub (fr' := [(0, _), (1, _), (2, _), (3, _)]) ?_ ⟨rfl, rfl, rfl, rfl, trivial⟩
 refine WC.seq (WC.region ?_)
 refine WL.box rfl rfl rfl fun o4 ho4 => ?_
 refine WL.box rfl rfl rfl fun o6 ho6 => ?_
 refine WL.alloc ty127 rfl rfl fun o8 ho8 => ?_
 refine WL.alloc ty59 rfl rfl fun o9 ho9 => ?_
 refine WL.q (oq_assign rfl) rfl rfl rfl ?_
 refine WL.nil (WE.then_normal (WC.sub (fr' := [(1, _), (3, _), (4, _), (6, _), (8, _), (9, _)]) ?_ ⟨rfl, rfl, rfl, rfl, rfl, rfl, trivial⟩))
 refine WC.seq (WC.region ?_)
 refine WL.q (oq_fieldAddr fld235_1 rfl) rfl rfl rfl ?_
 refine WL.q (oq_load flat130 rfl (.tail _ (.tail _ (.tail _ (.head _)))) (List.mem_singleton.2 rfl) rfl) rfl rfl rfl ?_
 refine WL.q (oq_move rfl) rfl rfl rfl ?_
 refine WL.q (oq_loadS [_, _] agg124 ty124 rfl (.tail _ (.tail _ (.head _))) (List.mem_singleton.2 rfl) rfl rfl) rfl rfl rfl ?_
 refine WL.q (oq_move rfl) rfl rfl rfl ?_
 refine WL.f8 ?_
 refine WL.f8 ?_
 refine WL.f8 ?_
 refine WL.f8 ?_
 refine WL.f8 ?_
 refine WL.callWE (args := [CTX, .agg #[.nilIface, .nilIface], h, Pt b3 0, Pt q 0]) (fun a w hf => run_enterv (first := []) (vs := [CTX, .agg #[.nilIface, .nilIface], h]) (cap := [Pt b3 0, Pt q 0]) call68 rfl rfl hf w) (hC l lv L ho hl) rfl rfl rfl rfl fun v1_5 Hs1_5 hR1_5 => ?_
 obtain ⟨lv2, L2, Y2, e2, rfl, rfl, ho2, hY2, he2⟩ := hR1_5
 refine WL.app5 ?_
 refine WL.q (oq_extract rfl rfl) rfl rfl rfl ?_
 refine WL.q (oq_extract rfl rfl) rfl rfl rfl ?_
 refine WL.q (oq_extract rfl rfl) rfl rfl rfl ?_
 refine WL.f6 ?_
 refine WL.storeS #[_] ty127 rfl rfl rfl rfl (Nat.le_of_ble_eq_true rfl) rfl rfl ?_
 refine WL.f6 ?_
 refine WL.storeS #[_] ty59 rfl rfl rfl rfl (Nat.le_of_ble_eq_true rfl) rfl rfl ?_
 refine WL.q (oq_assign rfl) rfl rfl rfl ?_
 refine WL.nil (WE.then_normal (WC.sub (fr' := [(8, _), (9, _), (10, _)]) ?_ ⟨rfl, rfl, rfl, trivial⟩))
 refine WC.ret ?_
 refine WE.endDW [_, _, _, _, _] (.inl rfl) (rs3 Tryz.results156 (rv_cellS [_] agg127 ty127 rfl (.tail _ (.head _)) (List.mem_singleton.2 rfl) rfl rfl) (rv_cellS [_] agg59 ty59 rfl (.head _) (List.mem_singleton.2 rfl) rfl rfl) (rv_tmp rfl)) (dr_lose ho9 (dr_lose ho8 (dr_f5 (dr_lose ho6 (dr_f5 (dr_lose ho4 dr_refl)))))) ?_
 exact crSame (ov' := .nilIface) ho2 hY2 he2
theorem dech1 (base : Nat) (K : KE) (X Y : Hp) (b3 q : Nat) (id : List UInt8) (ids : List (List UInt8)) (h : Value) (hY : ∀ b o, (b, o) ∈ Y → base ≤ b) (hC : HC base K 156 [.agg #[S id, FVN 1 b3 q], CTX, .agg #[.nilIface, .nilIface], h] X Y (.agg #[.nilIface]) ids) (l : List (List UInt8)) (lv : Value) (L : Hp) (ho : OwL base lv L l) (hl : l.length + 2 * ids.length ≤ 100000) : FnW Tryz.prog 150 [.agg #[h, .iface 235 (.agg #[S id, FVN 1 b3 q])], CTX, .agg #[.nilIface, .nilIface]] base [CS K.cb lv K.stop K.fail, L, KB K.kb false, X, Y] (CR base K X l ids (.agg #[.nilIface])) := by
 refine FnW.enter (n := 19) Tryz.func150 rfl rfl fun w0 R0 hbase => ?_
 subst hbase
 show WC _ _ _ _ _ _ _ ([CS K.cb lv K.stop K.fail, L, KB K.kb false, X, Y, R0])
 refine WC.sub (fr' := [(0, _), (1, _), (2, _)]) ?_ ⟨rfl, rfl, rfl, trivial⟩
 refine WC.seq (WC.region ?_)
 refine WL.box rfl rfl rfl fun o3 ho3 => ?_
 refine WL.box rfl rfl rfl fun o5 ho5 => ?_
 refine WL.alloc ty127 rfl rfl fun o6 ho6 => ?_
 refine WL.alloc ty59 rfl rfl fun o7 ho7 => ?_
 refine WL.q (oq_assign rfl) rfl rfl rfl ?_
 refine WL.nil (WE.then_normal (WC.sub (fr' := [(1, _), (3, _), (5, _), (6, _), (7, _)]) ?_ ⟨rfl, rfl, rfl, rfl, rfl, trivial⟩))
 refine WC.seq (WC.region ?_)
 refine WL.q (oq_fieldAddr fld210_1 rfl) rfl rfl rfl ?_
 refine WL.q (oq_load flat121 rfl (.tail _ (.tail _ (.tail _ (.head _)))) (List.mem_singleton.2 rfl) rfl) rfl rfl rfl ?_
 refine WL.q (oq_move rfl) rfl rfl rfl ?_
 refine WL.q (oq_loadS [_, _] agg124 ty124 rfl (.tail _ (.tail _ (.head _))) (List.mem_singleton.2 rfl) rfl rfl) rfl rfl rfl ?_
 refine WL.q (oq_fieldAddr fld210_0 rfl) rfl rfl rfl ?_
 refine WL.q (oq_load flat126 rfl (.tail _ (.tail _ (.tail _ (.head _)))) (List.mem_singleton.2 rfl) rfl) rfl rfl rfl ?_
 refine WL.f8 ?_
 refine WL.f8 ?_
 refine WL.f8 ?_
 refine WL.f8 ?_
 refine WL.f8 ?_
 refine WL.callWF (fun a w hf hw => ent_invH ((fun w _ => by kernel_rfl : InvH Tryz.prog Y "HandleSerialize" (.iface 235 (.agg #[S id, FVN 1 b3 q])) [CTX, .agg #[.nilIface, .nilIface], h] 156 [.agg #[S id, FVN 1 b3 q], CTX, .agg #[.nilIface, .nilIface], h])) (.tail _ (.tail _ (.tail _ (.tail _ (.head _))))) rfl rfl a w hf hw) (hC l lv L ho hl) rfl rfl rfl rfl fun v1_6 Hs1_6 hR1_6 => ?_
 obtain ⟨lv2, L2, Y2, e2, rfl, rfl, ho2, hY2, he2⟩ := hR1_6
 refine WL.app5 ?_
 refine WL.q (oq_extract rfl rfl) rfl rfl rfl ?_
 refine WL.q (oq_extract rfl rfl) rfl rfl rfl ?_
 refine WL.q (oq_extract rfl rfl) rfl rfl rfl ?_
 refine WL.f6 ?_
 refine WL.storeS #[_] ty127 rfl rfl rfl rfl (Nat.le_of_ble_eq_true rfl) rfl rfl ?_
 refine WL.f6 ?_
 refine WL.storeS #[_] ty59 rfl rfl rfl rfl (Nat.le_of_ble_eq_true rfl) rfl rfl ?_
 refine WL.q (oq_assign rfl) rfl rfl rfl ?_
 refine WL.nil (WE.then_normal (WC.sub (fr' := [(6, _), (7, _), (8, _)]) ?_ ⟨rfl, rfl, rfl, trivial⟩))
 refine WC.ret ?_
 refine WE.endDW [_, _, _, _, _] (.inl rfl) (rs3 Tryz.results150 (rv_cellS [_] agg127 ty127 rfl (.tail _ (.head _)) (List.mem_singleton.2 rfl) rfl rfl) (rv_cellS [_] agg59 ty59 rfl (.head _) (List.mem_singleton.2 rfl) rfl rfl) (rv_tmp rfl)) (dr_lose ho7 (dr_lose ho6 (dr_f5 (dr_lose ho5 (dr_f5 (dr_lose ho3 dr_refl)))))) ?_
 exact crSame (ov' := .nilIface) ho2 hY2 he2
theorem wrh1 (base : Nat) (K : KE) (X Y : Hp) (ids : List (List UInt8)) (h : Value) (hY : ∀ b o, (b, o) ∈ Y → base ≤ b) (hd : HD base K "Handle" .nilIface X Y h .nilIface ids) (l : List (List UInt8)) (lv : Value) (L : Hp) (ho : OwL base lv L l) (hl : l.length + 2 * ids.length ≤ 100000) : FnW Tryz.prog 169 [.agg #[h], CTX, .agg #[.nilIface, .nilIface]] base [CS K.cb lv K.stop K.fail, L, KB K.kb false, X, Y] (CR base K X l ids (.agg #[.nilIface])) := by
 obtain ⟨hf, ha, hiH, hC⟩ := hd
 refine FnW.enter (n := 24) Tryz.func169 rfl rfl fun w0 R0 hbase => ?_
 subst hbase
 show WC _ _ _ _ _ _ _ ([CS K.cb lv K.stop K.fail, L, KB K.kb false, X, Y, R0])
 refine WC.sub (fr' := [(0, _), (1, _), (2, _)]) ?_ ⟨rfl, rfl, rfl, trivial⟩
 refine WC.seq (WC.region ?_)
 refine WL.box rfl rfl rfl fun o3 ho3 => ?_
 refine WL.box rfl rfl rfl fun o5 ho5 => ?_
 refine WL.alloc ty127 rfl rfl fun o6 ho6 => ?_
 refine WL.alloc ty59 rfl rfl fun o7 ho7 => ?_
 refine WL.q (oq_assign rfl) rfl rfl rfl ?_
 refine WL.nil (WE.then_normal (WC.sub (fr' := [(1, _), (3, _), (5, _), (6, _), (7, _)]) ?_ ⟨rfl, rfl, rfl, rfl, rfl, trivial⟩))
 refine WC.seq (WC.region ?_)
 refine WL.q (oq_fieldAddr fld275_0 rfl) rfl rfl rfl ?_
 refine WL.q (oq_load flat87 rfl (.tail _ (.tail _ (.tail _ (.head _)))) (List.mem_singleton.2 rfl) rfl) rfl rfl rfl ?_
 refine WL.q (oq_move rfl) rfl rfl rfl ?_
 refine WL.q (oq_fieldAddr fld124_1 rfl) rfl rfl rfl ?_
 refine WL.q (oq_load flat20 rfl (.tail _ (.tail _ (.head _))) (List.mem_singleton.2 rfl) rfl) rfl rfl rfl ?_
 refine WL.f8 ?_
 refine WL.f8 ?_
 refine WL.f8 ?_
 refine WL.f8 ?_
 refine WL.f8 ?_
 refine WL.callWF (fun a w hf hw => ent_invH (hiH) (.tail _ (.tail _ (.tail _ (.tail _ (.head _))))) rfl rfl a w hf hw) (hC l lv L ho hl) rfl rfl rfl rfl fun v1_5 Hs1_5 hR1_5 => ?_
 obtain ⟨lv2, L2, Y2, e2, rfl, rfl, ho2, hY2, he2⟩ := hR1_5
 refine WL.app5 ?_
 refine WL.q (oq_move rfl) rfl rfl rfl ?_
 refine WL.q (oq_extract rfl rfl) rfl rfl rfl ?_
 refine WL.q (oq_extract rfl rfl) rfl rfl rfl ?_
 refine WL.q (oq_extract rfl rfl) rfl rfl rfl ?_
 refine WL.q (oq_assign rfl) rfl rfl rfl ?_
 refine WL.f5 ?_
 refine WL.storeS #[_] ty59 rfl rfl rfl rfl (Nat.le_of_ble_eq_true rfl) rfl rfl ?_
 refine WL.q (oq_assign rfl) rfl rfl rfl ?_
 refine WL.nil (WE.then_normal (WC.sub (fr' := [(6, _), (7, _), (8, _), (9, _)]) ?_ ⟨rfl, rfl, rfl, rfl, trivial⟩))
 refine WC.seq ?_
 refine WC.gate 5 ([(o7, Obj.cells #[.map none] 59 (0, 0))]) (by kernel_rfl) ?_
 refine WG.q 0 [] rfl (.head _) (fun w0 => oq_move rfl) rfl rfl rfl ?_
 refine WG.q 1 [] rfl (.head _) (fun w0 => oq_build #[_] str127 ty127 rfl rfl) rfl rfl rfl ?_
 refine WG.q 2 [] rfl (.head _) (fun w0 => oq_loadS [_] agg59 ty59 rfl (.head _) (List.mem_singleton.2 rfl) rfl rfl) rfl rfl rfl ?_
 refine WG.p 3 rfl (.inr (.head _)) (fun w0 => oq_move rfl) rfl rfl rfl ?_
 refine WG.step (i := 4) (by kernel_rfl) rfl ?_
 refine WL.f6 ?_
 refine WL.storeS #[_] ty127 rfl rfl rfl rfl (Nat.le_of_ble_eq_true rfl) rfl rfl ?_
 refine WL.nil ?_
 refine WE.toG (.tail _ (.head _)) ?_
 refine WG.step (i := 5) (by kernel_rfl) rfl ?_
 refine WL.f1 ?_
 refine WL.storeS #[_] ty59 rfl rfl rfl rfl (Nat.le_of_ble_eq_true rfl) rfl rfl ?_
 refine WL.nil ?_
 refine WE.toG0 (by kernel_rfl) ?_
 refine WG.p 6 rfl (.inl (by kernel_rfl)) (fun w0 => oq_assign rfl) rfl rfl rfl ?_
 refine WG.done (by kernel_rfl) ?_
 refine WE.then_normal (WC.sub (fr' := [(6, _), (7, _), (8, _)]) ?_ ⟨rfl, rfl, rfl, trivial⟩)
 refine WC.ret ?_
 refine WE.endDW [_, _, _, _, _] (.inl rfl) (rs3 Tryz.results169 (rv_cellS [_] agg127 ty127 rfl (.tail _ (.head _)) (List.mem_singleton.2 rfl) rfl rfl) (rv_cellS [_] agg59 ty59 rfl (.head _) (List.mem_singleton.2 rfl) rfl rfl) (rv_tmp rfl)) (dr_lose ho7 (dr_lose ho6 (dr_f5 (dr_lose ho5 (dr_f5 (dr_lose ho3 dr_refl)))))) ?_
 exact crSame (ov' := .nilIface) ho2 hY2 he2
theorem inner2 (base : Nat) (K : KE) (b3 q : Nat) (id : List UInt8) (r : List (List UInt8)) (X Y : Hp) (h : Value) (hi : id.length ≤ 100000) (hX3 : (b3, Obj.cells #[Pt K.cb 0] 54 (0, 0)) ∈ X) (hXq : (q, Obj.cells #[S id] 9 (0, 0)) ∈ X) (hY : ∀ b o, (b, o) ∈ Y → base ≤ b) (hd : HD base K "HandleBuild" (.agg #[.nilIface]) X Y h (.agg #[.nilIface]) r) (l : List (List UInt8)) (lv : Value) (L : Hp) (ho : OwL base lv L l) (hl : l.length + 2 * (id :: r).length ≤ 100000) : FnW Tryz.prog 82 [CTX, .agg #[.nilIface], h, Pt b3 0, Pt q 0] base [CS K.cb lv K.stop K.fail, L, KB K.kb false, X, Y] (CR base K X l (id :: r) (.agg #[.nilIface])) := by
 have hl2 : l.length + 2 * (r.length + 1) ≤ 100000 := hl
 have hTr := Tr_len K.stop r
 obtain ⟨hf, ha, hiH, hC⟩ := hd
 refine FnW.enter (n := 43) Tryz.func82 rfl rfl fun w0 R0 hbase => ?_
 subst hbase
 show WC _ _ _ _ _ _ _ ([CS K.cb lv K.stop K.fail, L, KB K.kb false, X, Y, R0])
 refine WC.sub (fr' := [(0, _), (1, _), (2, _), (3, _), (4, _)]) ?_ ⟨rfl, rfl, rfl, rfl, rfl, trivial⟩
 refine WC.seq (WC.region ?_)
 refine WL.box rfl rfl rfl fun o6 ho6 => ?_
 refine WL.alloc ty146 rfl rfl fun o8 ho8 => ?_
 refine WL.alloc ty59 rfl rfl fun o9 ho9 => ?_
 refine WL.q (oq_assign rfl) rfl rfl rfl ?_
 refine WL.nil (WE.then_normal (WC.sub (fr' := [(0, _), (2, _), (3, _), (4, _), (6, _), (8, _), (9, _)]) ?_ ⟨rfl, rfl, rfl, rfl, rfl, rfl, rfl, trivial⟩))
 refine WC.seq (WC.seq (WC.region ?_))
 refine WL.q (oq_load flat54 rfl (.tail _ (.tail _ (.tail _ (.tail _ (.tail _ (.tail _ (.head _))))))) (hX3) rfl) rfl rfl rfl ?_
 refine WL.q (oq_load flat9 rfl (.tail _ (.tail _ (.tail _ (.tail _ (.tail _ (.tail _ (.head _))))))) (hXq) rfl) rfl rfl rfl ?_
 refine WL.f4 ?_
 refine WL.f4 ?_
 refine WL.callW2 (enter _ K.cb lv L l K.stop K.fail ho (by omega) id) call53 rfl rfl rfl fun v1_2 Hs1_2 hR1_2 => ?_
 obtain ⟨lv1, L1, e1, rfl, ho1, rfl, he1⟩ := hR1_2
 refine WL.to2 ?_
 refine WL.q (oq_move rfl) rfl rfl rfl ?_
 refine WL.q (oq_extract rfl rfl) rfl rfl rfl ?_
 refine WL.q (oq_extract rfl rfl) rfl rfl rfl ?_
 refine WL.q (oq_assign rfl) rfl rfl rfl ?_
 refine WL.q (oq_assign rfl) rfl rfl rfl ?_
 refine WL.nil (WE.then_normal (WC.sub (fr' := [(0, _), (2, _), (3, _), (4, _), (6, _), (8, _), (9, _), (11, _), (12, _)]) ?_ ⟨rfl, rfl, rfl, rfl, rfl, rfl, rfl, rfl, rfl, trivial⟩))
 refine WC.seq (WC.region ?_)
 refine WL.q (oq_move rfl) rfl rfl rfl ?_
 refine WL.nil (WE.then_normal (WC.sub (fr' := [(0, _), (2, _), (3, _), (4, _), (6, _), (8, _), (9, _), (12, _), (22, _)]) ?_ ⟨rfl, rfl, rfl, rfl, rfl, rfl, rfl, rfl, rfl, trivial⟩))
 refine WC.cond rfl (fun q2 => ?_) (fun q2 => ?_)
 ·
  try simp only [Z1, Z2, Z3, Z4, Z5, Z6, Z7, Z8, Z9, Z0] at q2
  refine WC.seq (WC.region ?_)
  refine WL.q (oq_load flat54 rfl (.tail _ (.tail _ (.tail _ (.tail _ (.tail _ (.tail _ (.head _))))))) (hX3) rfl) rfl rfl rfl ?_
  refine WL.q (oq_load flat9 rfl (.tail _ (.tail _ (.tail _ (.tail _ (.tail _ (.tail _ (.head _))))))) (hXq) rfl) rfl rfl rfl ?_
  refine WL.f1 ?_
  refine WL.f1 ?_
  refine WL.callW2 (leave _ K.cb lv1 L1 (l ++ [id]) K.stop K.fail ho1 (by simp only [List.length_append, List.length_cons, List.length_nil]; omega) id hi) call54 rfl rfl rfl fun v3_2 Hs3_2 hR3_2 => ?_
  obtain ⟨lv3, L3, rfl, ho3, rfl⟩ := hR3_2
  refine WL.to2 ?_
  refine WL.nil (WE.then_normal (WC.sub (fr' := [(8, _), (9, _), (12, _)]) ?_ ⟨rfl, rfl, rfl, trivial⟩))
  refine WC.seq (WC.region ?_)
  refine WL.q (oq_build #[_] str146 ty146 rfl rfl) rfl rfl rfl ?_
  refine WL.q (oq_build #[_] str59 ty59 rfl rfl) rfl rfl rfl ?_
  refine WL.q (oq_move rfl) rfl rfl rfl ?_
  refine WL.f3 ?_
  refine WL.storeS #[_] ty146 rfl rfl rfl rfl (Nat.le_of_ble_eq_true rfl) rfl rfl ?_
  refine WL.f3 ?_
  refine WL.storeS #[_] ty59 rfl rfl rfl rfl (Nat.le_of_ble_eq_true rfl) rfl rfl ?_
  refine WL.q (oq_assign rfl) rfl rfl rfl ?_
  refine WL.nil (WE.then_normal (WC.sub (fr' := [(8, _), (9, _), (10, _)]) ?_ ⟨rfl, rfl, rfl, trivial⟩))
  refine WC.ret (WE.then_ret ?_)
  refine WE.endDW [_, _, _, _, _] (.inl rfl) (rs3 Tryz.results82 (rv_cellS [_] agg146 ty146 rfl (.tail _ (.head _)) (List.mem_singleton.2 rfl) rfl rfl) (rv_cellS [_] agg59 ty59 rfl (.head _) (List.mem_singleton.2 rfl) rfl rfl) (rv_tmp rfl)) (dr_lose ho9 (dr_lose ho8 (dr_f2 (dr_lose ho6 dr_refl)))) ?_
  exact crHit q2 ho3 hY he1
 ·
  try simp only [Z1, Z2, Z3, Z4, Z5, Z6, Z7, Z8, Z9, Z0] at q2
  refine WC.skip (WE.then_normal (WC.sub (fr' := [(0, _), (2, _), (3, _), (4, _), (6, _), (8, _), (9, _)]) ?_ ⟨rfl, rfl, rfl, rfl, rfl, rfl, rfl, trivial⟩))
  refine WC.seq (WC.region ?_)
  refine WL.q (oq_move rfl) rfl rfl rfl ?_
  refine WL.q (oq_move rfl) rfl rfl rfl ?_
  refine WL.q (oq_loadS [_] agg143 ty143 rfl (.tail _ (.tail _ (.tail _ (.tail _ (.head _))))) (List.mem_singleton.2 rfl) rfl rfl) rfl rfl rfl ?_
  refine WL.f7 ?_
  refine WL.f7 ?_
  refine WL.f7 ?_
  refine WL.f4 ?_
  refine WL.f4 ?_
  refine WL.callWF (fun a w hf hw => ent_invH (hiH) (.tail _ (.tail _ (.tail _ (.tail _ (.head _))))) rfl rfl a w hf hw) (hC (l ++ [id]) lv1 L1 ho1 (by simp only [List.length_append, List.length_cons, List.length_nil]; omega)) rfl rfl rfl rfl fun v5_3 Hs5_3 hR5_3 => ?_
  obtain ⟨lv2, L2, Y2, e2, rfl, rfl, ho2, hY2, he2⟩ := hR5_3
  refine WL.app5 ?_
  refine WL.q (oq_move rfl) rfl rfl rfl ?_
  refine WL.q (oq_extract rfl rfl) rfl rfl rfl ?_
  refine WL.q (oq_extract rfl rfl) rfl rfl rfl ?_
  refine WL.q (oq_extract rfl rfl) rfl rfl rfl ?_
  refine WL.alloc ty146 rfl rfl fun o13 ho13 => ?_
  refine WL.alloc ty59 rfl rfl fun o14 ho14 => ?_
  refine WL.f1 ?_
  refine WL.storeS #[_] ty146 rfl rfl rfl rfl (Nat.le_of_ble_eq_true rfl) rfl rfl ?_
  refine WL.f1 ?_
  refine WL.storeS #[_] ty59 rfl rfl rfl rfl (Nat.le_of_ble_eq_true rfl) rfl rfl ?_
  refine WL.q (oq_assign rfl) rfl rfl rfl ?_
  refine WL.nil (WE.then_normal (WC.sub (fr' := [(3, _), (4, _), (8, _), (9, _), (13, _), (14, _), (15, _)]) ?_ ⟨rfl, rfl, rfl, rfl, rfl, rfl, rfl, trivial⟩))
  refine WC.seq (WC.region ?_)
  refine WL.q (oq_load flat54 rfl (.tail _ (.tail _ (.tail _ (.tail _ (.tail _ (.head _)))))) (hX3) rfl) rfl rfl rfl ?_
  refine WL.q (oq_load flat9 rfl (.tail _ (.tail _ (.tail _ (.tail _ (.tail _ (.head _)))))) (hXq) rfl) rfl rfl rfl ?_
  refine WL.f3 ?_
  refine WL.f3 ?_
  refine WL.callW2 (leave _ K.cb lv2 L2 ((l ++ [id]) ++ (Tr K.stop r).1) K.stop K.fail ho2 (by simp only [List.length_append, List.length_cons, List.length_nil]; omega) id hi) call54 rfl rfl rfl fun v6_2 Hs6_2 hR6_2 => ?_
  obtain ⟨lv3, L3, rfl, ho3, rfl⟩ := hR6_2
  refine WL.to2 ?_
  refine WL.nil (WE.then_normal (WC.sub (fr' := [(8, _), (9, _), (13, _), (14, _), (15, _)]) ?_ ⟨rfl, rfl, rfl, rfl, rfl, trivial⟩))
  refine WC.seq ?_
  refine WC.f2 ?_
  refine WC.f3 ?_
  refine WC.cat ?_
  refine WC.gate 4 (([(o13, Obj.cells #[.nilIface] 146 (0, 0))] ++ [(o14, Obj.cells #[.map none] 59 (0, 0))])) (by kernel_rfl) ?_
  refine WG.q 0 [] rfl (.head _) (fun w0 => oq_loadS [_] agg146 ty146 rfl (.head _) (List.mem_append_left _ (List.mem_singleton.2 rfl)) rfl rfl) rfl rfl rfl ?_
  refine WG.q 1 [] rfl (.head _) (fun w0 => oq_loadS [_] agg59 ty59 rfl (.head _) (List.mem_append_right _ (List.mem_singleton.2 rfl)) rfl rfl) rfl rfl rfl ?_
  refine WG.p 2 rfl (.inr (.head _)) (fun w0 => oq_move rfl) rfl rfl rfl ?_
  refine WG.step (i := 3) (by kernel_rfl) rfl ?_
  refine WL.f7 ?_
  refine WL.storeS #[_] ty146 rfl rfl rfl rfl (Nat.le_of_ble_eq_true rfl) rfl rfl ?_
  refine WL.nil ?_
  refine WE.toG (.tail _ (.head _)) ?_
  refine WG.step (i := 4) (by kernel_rfl) rfl ?_
  refine WL.f7 ?_
  refine WL.storeS #[_] ty59 rfl rfl rfl rfl (Nat.le_of_ble_eq_true rfl) rfl rfl ?_
  refine WL.nil ?_
  refine WE.toG0 (by kernel_rfl) ?_
  refine WG.p 5 rfl (.inl (by kernel_rfl)) (fun w0 => oq_assign rfl) rfl rfl rfl ?_
  refine WG.done (by kernel_rfl) ?_
  refine WE.then_normal (WC.sub (fr' := [(8, _), (9, _), (10, _)]) ?_ ⟨rfl, rfl, rfl, trivial⟩)
  refine WC.ret ?_
  refine WE.endDW [_, _, _, _, _] (.inl rfl) (rs3 Tryz.results82 (rv_cellS [_] agg146 ty146 rfl (.tail _ (.head _)) (List.mem_singleton.2 rfl) rfl rfl) (rv_cellS [_] agg59 ty59 rfl (.head _) (List.mem_singleton.2 rfl) rfl rfl) (rv_tmp rfl)) (dr_lose ho9 (dr_lose ho8 (dr_forget (fresh_cat (fresh1 ho13) (fresh1 ho14)) (dr_f5 (dr_lose ho6 dr_refl))))) ?_
  exact crMiss (by first | exact q2 | simpa using q2) ho3 hY2 he2
theorem mfh2 (base : Nat) (K : KE) (X Y : Hp) (b3 q : Nat) (id : List UInt8) (ids : List (List UInt8)) (h : Value) (hY : ∀ b o, (b, o) ∈ Y → base ≤ b) (hC : HC base K 82 [CTX, .agg #[.nilIface], h, Pt b3 0, Pt q 0] X Y (.agg #[.nilIface]) ids) (l : List (List UInt8)) (lv : Value) (L : Hp) (ho : OwL base lv L l) (hl : l.length + 2 * ids.length ≤ 100000) : FnW Tryz.prog 158 [.agg #[S id, FVN 2 b3 q], CTX, .agg #[.nilIface], h] base [CS K.cb lv K.stop K.fail, L, KB K.kb false, X, Y] (CR base K X l ids (.agg #[.nilIface])) := by
 refine FnW.enter (n := 20) Tryz.func158 rfl rfl fun w0 R0 hbase => ?_
 subst hbase
 show WC _ _ _ _ _ _ _ ([CS K.cb lv K.stop K.fail, L, KB K.kb false, X, Y, R0])
 refine WC.sub (fr' := [(0, _), (1, _), (2, _), (3, _)]) ?_ ⟨rfl, rfl, rfl, rfl, trivial⟩
 refine WC.seq (WC.region ?_)
 refine WL.box rfl rfl rfl fun o4 ho4 => ?_
 refine WL.box rfl rfl rfl fun o6 ho6 => ?_
 refine WL.alloc ty146 rfl rfl fun o8 ho8 => ?_
 refine WL.alloc ty59 rfl rfl fun o9 ho9 => ?_
 refine WL.q (oq_assign rfl) rfl rfl rfl ?_
 refine WL.nil (WE.then_normal (WC.sub (fr' := [(1, _), (3, _), (4, _), (6, _), (8, _), (9, _)]) ?_ ⟨rfl, rfl, rfl, rfl, rfl, rfl, trivial⟩))
 refine WC.seq (WC.region ?_)
 refine WL.q (oq_fieldAddr fld239_1 rfl) rfl rfl rfl ?_
 refine WL.q (oq_load flat149 rfl (.tail _ (.tail _ (.tail _ (.head _)))) (List.mem_singleton.2 rfl) rfl) rfl rfl rfl ?_
 refine WL.q (oq_move rfl) rfl rfl rfl ?_
 refine WL.q (oq_loadS [_] agg143 ty143 rfl (.tail _ (.tail _ (.head _))) (List.mem_singleton.2 rfl) rfl rfl) rfl rfl rfl ?_
 refine WL.q (oq_move rfl) rfl rfl rfl ?_
 refine WL.f8 ?_
 refine WL.f8 ?_
 refine WL.f8 ?_
 refine WL.f8 ?_
 refine WL.f8 ?_
 refine WL.callWE (args := [CTX, .agg #[.nilIface], h, Pt b3 0, Pt q 0]) (fun a w hf => run_enterv (first := []) (vs := [CTX, .agg #[.nilIface], h]) (cap := [Pt b3 0, Pt q 0]) call82 rfl rfl hf w) (hC l lv L ho hl) rfl rfl rfl rfl fun v1_5 Hs1_5 hR1_5 => ?_
 obtain ⟨lv2, L2, Y2, e2, rfl, rfl, ho2, hY2, he2⟩ := hR1_5
 refine WL.app5 ?_
 refine WL.q (oq_extract rfl rfl) rfl rfl rfl ?_
 refine WL.q (oq_extract rfl rfl) rfl rfl rfl ?_
 refine WL.q (oq_extract rfl rfl) rfl rfl rfl ?_
 refine WL.f6 ?_
 refine WL.storeS #[_] ty146 rfl rfl rfl rfl (Nat.le_of_ble_eq_true rfl) rfl rfl ?_
 refine WL.f6 ?_
 refine WL.storeS #[_] ty59 rfl rfl rfl rfl (Nat.le_of_ble_eq_true rfl) rfl rfl ?_
 refine WL.q (oq_assign rfl) rfl rfl rfl ?_
 refine WL.nil (WE.then_normal (WC.sub (fr' := [(8, _), (9, _), (10, _)]) ?_ ⟨rfl, rfl, rfl, trivial⟩))
 refine WC.ret ?_
 refine WE.endDW [_, _, _, _, _] (.inl rfl) (rs3 Tryz.results158 (rv_cellS [_] agg146 ty146 rfl (.tail _ (.head _)) (List.mem_singleton.2 rfl) rfl rfl) (rv_cellS [_] agg59 ty59 rfl (.head _) (List.mem_singleton.2 rfl) rfl rfl) (rv_tmp rfl)) (dr_lose ho9 (dr_lose ho8 (dr_f5 (dr_lose ho6 (dr_f5 (dr_lose ho4 dr_refl)))))) ?_
 exact crSame (ov' := .nilIface) ho2 hY2 he2
theorem dech2 (base : Nat) (K : KE) (X Y : Hp) (b3 q : Nat) (id : List UInt8) (ids : List (List UInt8)) (h : Value) (hY : ∀ b o, (b, o) ∈ Y → base ≤ b) (hC : HC base K 158 [.agg #[S id, FVN 2 b3 q], CTX, .agg #[.nilIface], h] X Y (.agg #[.nilIface]) ids) (l : List (List UInt8)) (lv : Value) (L : Hp) (ho : OwL base lv L l) (hl : l.length + 2 * ids.length ≤ 100000) : FnW Tryz.prog 151 [.agg #[h, .iface 239 (.agg #[S id, FVN 2 b3 q])], CTX, .agg #[.nilIface]] base [CS K.cb lv K.stop K.fail, L, KB K.kb false, X, Y] (CR base K X l ids (.agg #[.nilIface])) := by
 refine FnW.enter (n := 19) Tryz.func151 rfl rfl fun w0 R0 hbase => ?_
 subst hbase
 show WC _ _ _ _ _ _ _ ([CS K.cb lv K.stop K.fail, L, KB K.kb false, X, Y, R0])
 refine WC.sub (fr' := [(0, _), (1, _), (2, _)]) ?_ ⟨rfl, rfl, rfl, trivial⟩
 refine WC.seq (WC.region ?_)
 refine WL.box rfl rfl rfl fun o3 ho3 => ?_
 refine WL.box rfl rfl rfl fun o5 ho5 => ?_
 refine WL.alloc ty146 rfl rfl fun o6 ho6 => ?_
 refine WL.alloc ty59 rfl rfl fun o7 ho7 => ?_
 refine WL.q (oq_assign rfl) rfl rfl rfl ?_
 refine WL.nil (WE.then_normal (WC.sub (fr' := [(1, _), (3, _), (5, _), (6, _), (7, _)]) ?_ ⟨rfl, rfl, rfl, rfl, rfl, trivial⟩))
 refine WC.seq (WC.region ?_)
 refine WL.q (oq_fieldAddr fld216_1 rfl) rfl rfl rfl ?_
 refine WL.q (oq_load flat140 rfl (.tail _ (.tail _ (.tail _ (.head _)))) (List.mem_singleton.2 rfl) rfl) rfl rfl rfl ?_
 refine WL.q (oq_move rfl) rfl rfl rfl ?_
 refine WL.q (oq_loadS [_] agg143 ty143 rfl (.tail _ (.tail _ (.head _))) (List.mem_singleton.2 rfl) rfl rfl) rfl rfl rfl ?_
 refine WL.q (oq_fieldAddr fld216_0 rfl) rfl rfl rfl ?_
 refine WL.q (oq_load flat145 rfl (.tail _ (.tail _ (.tail _ (.head _)))) (List.mem_singleton.2 rfl) rfl) rfl rfl rfl ?_
 refine WL.f8 ?_
 refine WL.f8 ?_
 refine WL.f8 ?_
 refine WL.f8 ?_
 refine WL.f8 ?_
 refine WL.callWF (fun a w hf hw => ent_invH ((fun w _ => by kernel_rfl : InvH Tryz.prog Y "HandleBuild" (.iface 239 (.agg #[S id, FVN 2 b3 q])) [CTX, .agg #[.nilIface], h] 158 [.agg #[S id, FVN 2 b3 q], CTX, .agg #[.nilIface], h])) (.tail _ (.tail _ (.tail _ (.tail _ (.head _))))) rfl rfl a w hf hw) (hC l lv L ho hl) rfl rfl rfl rfl fun v1_6 Hs1_6 hR1_6 => ?_
 obtain ⟨lv2, L2, Y2, e2, rfl, rfl, ho2, hY2, he2⟩ := hR1_6
 refine WL.app5 ?_
 refine WL.q (oq_extract rfl rfl) rfl rfl rfl ?_
 refine WL.q (oq_extract rfl rfl) rfl rfl rfl ?_
 refine WL.q (oq_extract rfl rfl) rfl rfl rfl ?_
 refine WL.f6 ?_
 refine WL.storeS #[_] ty146 rfl rfl rfl rfl (Nat.le_of_ble_eq_true rfl) rfl rfl ?_
 refine WL.f6 ?_
 refine WL.storeS #[_] ty59 rfl rfl rfl rfl (Nat.le_of_ble_eq_true rfl) rfl rfl ?_
 refine WL.q (oq_assign rfl) rfl rfl rfl ?_
 refine WL.nil (WE.then_normal (WC.sub (fr' := [(6, _), (7, _), (8, _)]) ?_ ⟨rfl, rfl, rfl, trivial⟩))
 refine WC.ret ?_
 refine WE.endDW [_, _, _, _, _] (.inl rfl) (rs3 Tryz.results151 (rv_cellS [_] agg146 ty146 rfl (.tail _ (.head _)) (List.mem_singleton.2 rfl) rfl rfl) (rv_cellS [_] agg59 ty59 rfl (.head _) (List.mem_singleton.2 rfl) rfl rfl) (rv_tmp rfl)) (dr_lose ho7 (dr_lose ho6 (dr_f5 (dr_lose ho5 (dr_f5 (dr_lose ho3 dr_refl)))))) ?_
 exact crSame (ov' := .nilIface) ho2 hY2 he2
theorem wrh2 (base : Nat) (K : KE) (X Y : Hp) (ids : List (List UInt8)) (h : Value) (hY : ∀ b o, (b, o) ∈ Y → base ≤ b) (hd : HD base K "Handle" .nilIface X Y h .nilIface ids) (l : List (List UInt8)) (lv : Value) (L : Hp) (ho : OwL base lv L l) (hl : l.length + 2 * ids.length ≤ 100000) : FnW Tryz.prog 171 [.agg #[h], CTX, .agg #[.nilIface]] base [CS K.cb lv K.stop K.fail, L, KB K.kb false, X, Y] (CR base K X l ids (.agg #[.nilIface])) := by
 obtain ⟨hf, ha, hiH, hC⟩ := hd
 refine FnW.enter (n := 24) Tryz.func171 rfl rfl fun w0 R0 hbase => ?_
 subst hbase
 show WC _ _ _ _ _ _ _ ([CS K.cb lv K.stop K.fail, L, KB K.kb false, X, Y, R0])
 refine WC.sub (fr' := [(0, _), (1, _), (2, _)]) ?_ ⟨rfl, rfl, rfl, trivial⟩
 refine WC.seq (WC.region ?_)
 refine WL.box rfl rfl rfl fun o3 ho3 => ?_
 refine WL.box rfl rfl rfl fun o5 ho5 => ?_
 refine WL.alloc ty146 rfl rfl fun o6 ho6 => ?_
 refine WL.alloc ty59 rfl rfl fun o7 ho7 => ?_
 refine WL.q (oq_assign rfl) rfl rfl rfl ?_
 refine WL.nil (WE.then_normal (WC.sub (fr' := [(1, _), (3, _), (5, _), (6, _), (7, _)]) ?_ ⟨rfl, rfl, rfl, rfl, rfl, trivial⟩))
 refine WC.seq (WC.region ?_)
 refine WL.q (oq_fieldAddr fld277_0 rfl) rfl rfl rfl ?_
 refine WL.q (oq_load flat87 rfl (.tail _ (.tail _ (.tail _ (.head _)))) (List.mem_singleton.2 rfl) rfl) rfl rfl rfl ?_
 refine WL.q (oq_move rfl) rfl rfl rfl ?_
 refine WL.q (oq_fieldAddr fld143_0 rfl) rfl rfl rfl ?_
 refine WL.q (oq_load flat20 rfl (.tail _ (.tail _ (.head _))) (List.mem_singleton.2 rfl) rfl) rfl rfl rfl ?_
 refine WL.f8 ?_
 refine WL.f8 ?_
 refine WL.f8 ?_
 refine WL.f8 ?_
 refine WL.f8 ?_
 refine WL.callWF (fun a w hf hw => ent_invH (hiH) (.tail _ (.tail _ (.tail _ (.tail _ (.head _))))) rfl rfl a w hf hw) (hC l lv L ho hl) rfl rfl rfl rfl fun v1_5 Hs1_5 hR1_5 => ?_
 obtain ⟨lv2, L2, Y2, e2, rfl, rfl, ho2, hY2, he2⟩ := hR1_5
 refine WL.app5 ?_
 refine WL.q (oq_move rfl) rfl rfl rfl ?_
 refine WL.q (oq_extract rfl rfl) rfl rfl rfl ?_
 refine WL.q (oq_extract rfl rfl) rfl rfl rfl ?_
 refine WL.q (oq_extract rfl rfl) rfl rfl rfl ?_
 refine WL.q (oq_assign rfl) rfl rfl rfl ?_
 refine WL.f5 ?_
 refine WL.storeS #[_] ty59 rfl rfl rfl rfl (Nat.le_of_ble_eq_true rfl) rfl rfl ?_
 refine WL.q (oq_assign rfl) rfl rfl rfl ?_
 refine WL.nil (WE.then_normal (WC.sub (fr' := [(6, _), (7, _), (8, _), (9, _)]) ?_ ⟨rfl, rfl, rfl, rfl, trivial⟩))
 refine WC.seq ?_
 refine WC.gate 5 ([(o7, Obj.cells #[.map none] 59 (0, 0))]) (by kernel_rfl) ?_
 refine WG.q 0 [] rfl (.head _) (fun w0 => oq_move rfl) rfl rfl rfl ?_
 refine WG.q 1 [] rfl (.head _) (fun w0 => oq_build #[_] str146 ty146 rfl rfl) rfl rfl rfl ?_
 refine WG.q 2 [] rfl (.head _) (fun w0 => oq_loadS [_] agg59 ty59 rfl (.head _) (List.mem_singleton.2 rfl) rfl rfl) rfl rfl rfl ?_
 refine WG.p 3 rfl (.inr (.head _)) (fun w0 => oq_move rfl) rfl rfl rfl ?_
 refine WG.step (i := 4) (by kernel_rfl) rfl ?_
 refine WL.f6 ?_
 refine WL.storeS #[_] ty146 rfl rfl rfl rfl (Nat.le_of_ble_eq_true rfl) rfl rfl ?_
 refine WL.nil ?_
 refine WE.toG (.tail _ (.head _)) ?_
 refine WG.step (i := 5) (by kernel_rfl) rfl ?_
 refine WL.f1 ?_
 refine WL.storeS #[_] ty59 rfl rfl rfl rfl (Nat.le_of_ble_eq_true rfl) rfl rfl ?_
 refine WL.nil ?_
 refine WE.toG0 (by kernel_rfl) ?_
 refine WG.p 6 rfl (.inl (by kernel_rfl)) (fun w0 => oq_assign rfl) rfl rfl rfl ?_
 refine WG.done (by kernel_rfl) ?_
 refine WE.then_normal (WC.sub (fr' := [(6, _), (7, _), (8, _)]) ?_ ⟨rfl, rfl, rfl, trivial⟩)
 refine WC.ret ?_
 refine WE.endDW [_, _, _, _, _] (.inl rfl) (rs3 Tryz.results171 (rv_cellS [_] agg146 ty146 rfl (.tail _ (.head _)) (List.mem_singleton.2 rfl) rfl rfl) (rv_cellS [_] agg59 ty59 rfl (.head _) (List.mem_singleton.2 rfl) rfl rfl) (rv_tmp rfl)) (dr_lose ho7 (dr_lose ho6 (dr_f5 (dr_lose ho5 (dr_f5 (dr_lose ho3 dr_refl)))))) ?_
 exact crSame (ov' := .nilIface) ho2 hY2 he2
theorem inner3 (base : Nat) (K : KE) (b3 q : Nat) (id : List UInt8) (r : List (List UInt8)) (X Y : Hp) (h : Value) (hi : id.length ≤ 100000) (hX3 : (b3, Obj.cells #[Pt K.cb 0] 54 (0, 0)) ∈ X) (hXq : (q, Obj.cells #[S id] 9 (0, 0)) ∈ X) (hY : ∀ b o, (b, o) ∈ Y → base ≤ b) (hd : HD base K "HandleFinalize" (.agg #[.nilIface]) X Y h (.agg #[.nilIface]) r) (l : List (List UInt8)) (lv : Value) (L : Hp) (ho : OwL base lv L l) (hl : l.length + 2 * (id :: r).length ≤ 100000) : FnW Tryz.prog 96 [CTX, .agg #[.nilIface], h, Pt b3 0, Pt q 0] base [CS K.cb lv K.stop K.fail, L, KB K.kb false, X, Y] (CR base K X l (id :: r) (.agg #[.nilIface])) := by
 have hl2 : l.length + 2 * (r.length + 1) ≤ 100000 := hl
 have hTr := Tr_len K.stop r
 obtain ⟨hf, ha, hiH, hC⟩ := hd
 refine FnW.enter (n := 43) Tryz.func96 rfl rfl fun w0 R0 hbase => ?_
 subst hbase
 show WC _ _ _ _ _ _ _ ([CS K.cb lv K.stop K.fail, L, KB K.kb false, X, Y, R0])
 refine WC.sub (fr' := [(0, _), (1, _), (2, _), (3, _), (4, _)]) ?_ ⟨rfl, rfl, rfl, rfl, rfl, trivial⟩
 refine WC.seq (WC.region ?_)
 refine WL.box rfl rfl rfl fun o6 ho6 => ?_
 refine WL.alloc ty164 rfl rfl fun o8 ho8 => ?_
 refine WL.alloc ty59 rfl rfl fun o9 ho9 => ?_
 refine WL.q (oq_assign rfl) rfl rfl rfl ?_
 refine WL.nil (WE.then_normal (WC.sub (fr' := [(0, _), (2, _), (3, _), (4, _), (6, _), (8, _), (9, _)]) ?_ ⟨rfl, rfl, rfl, rfl, rfl, rfl, rfl, trivial⟩))
 refine WC.seq (WC.seq (WC.region ?_))
 refine WL.q (oq_load flat54 rfl (.tail _ (.tail _ (.tail _ (.tail _ (.tail _ (.tail _ (.head _))))))) (hX3) rfl) rfl rfl rfl ?_
 refine WL.q (oq_load flat9 rfl (.tail _ (.tail _ (.tail _ (.tail _ (.tail _ (.tail _ (.head _))))))) (hXq) rfl) rfl rfl rfl ?_
 refine WL.f4 ?_
 refine WL.f4 ?_
 refine WL.callW2 (enter _ K.cb lv L l K.stop K.fail ho (by omega) id) call53 rfl rfl rfl fun v1_2 Hs1_2 hR1_2 => ?_
 obtain ⟨lv1, L1, e1, rfl, ho1, rfl, he1⟩ := hR1_2
 refine WL.to2 ?_
 refine WL.q (oq_move rfl) rfl rfl rfl ?_
 refine WL.q (oq_extract rfl rfl) rfl rfl rfl ?_
 refine WL.q (oq_extract rfl rfl) rfl rfl rfl ?_
 refine WL.q (oq_assign rfl) rfl rfl rfl ?_
 refine WL.q (oq_assign rfl) rfl rfl rfl ?_
 refine WL.nil (WE.then_normal (WC.sub (fr' := [(0, _), (2, _), (3, _), (4, _), (6, _), (8, _), (9, _), (11, _), (12, _)]) ?_ ⟨rfl, rfl, rfl, rfl, rfl, rfl, rfl, rfl, rfl, trivial⟩))
 refine WC.seq (WC.region ?_)
 refine WL.q (oq_move rfl) rfl rfl rfl ?_
 refine WL.nil (WE.then_normal (WC.sub (fr' := [(0, _), (2, _), (3, _), (4, _), (6, _), (8, _), (9, _), (12, _), (22, _)]) ?_ ⟨rfl, rfl, rfl, rfl, rfl, rfl, rfl, rfl, rfl, trivial⟩))
 refine WC.cond rfl (fun q2 => ?_) (fun q2 => ?_)
 ·
  try simp only [Z1, Z2, Z3, Z4, Z5, Z6, Z7, Z8, Z9, Z0] at q2
  refine WC.seq (WC.region ?_)
  refine WL.q (oq_load flat54 rfl (.tail _ (.tail _ (.tail _ (.tail _ (.tail _ (.tail _ (.head _))))))) (hX3) rfl) rfl rfl rfl ?_
  refine WL.q (oq_load flat9 rfl (.tail _ (.tail _ (.tail _ (.tail _ (.tail _ (.tail _ (.head _))))))) (hXq) rfl) rfl rfl rfl ?_
  refine WL.f1 ?_
  refine WL.f1 ?_
  refine WL.callW2 (leave _ K.cb lv1 L1 (l ++ [id]) K.stop K.fail ho1 (by simp only [List.length_append, List.length_cons, List.length_nil]; omega) id hi) call54 rfl rfl rfl fun v3_2 Hs3_2 hR3_2 => ?_
  obtain ⟨lv3, L3, rfl, ho3, rfl⟩ := hR3_2
  refine WL.to2 ?_
  refine WL.nil (WE.then_normal (WC.sub (fr' := [(8, _), (9, _), (12, _)]) ?_ ⟨rfl, rfl, rfl, trivial⟩))
  refine WC.seq (WC.region ?_)
  refine WL.q (oq_build #[_] str164 ty164 rfl rfl) rfl rfl rfl ?_
  refine WL.q (oq_build #[_] str59 ty59 rfl rfl) rfl rfl rfl ?_
  refine WL.q (oq_move rfl) rfl rfl rfl ?_
  refine WL.f3 ?_
  refine WL.storeS #[_] ty164 rfl rfl rfl rfl (Nat.le_of_ble_eq_true rfl) rfl rfl ?_
  refine WL.f3 ?_
  refine WL.storeS #[_] ty59 rfl rfl rfl rfl (Nat.le_of_ble_eq_true rfl) rfl rfl ?_
  refine WL.q (oq_assign rfl) rfl rfl rfl ?_
  refine WL.nil (WE.then_normal (WC.sub (fr' := [(8, _), (9, _), (10, _)]) ?_ ⟨rfl, rfl, rfl, trivial⟩))
  refine WC.ret (WE.then_ret ?_)
  refine WE.endDW [_, _, _, _, _] (.inl rfl) (rs3 Tryz.results96 (rv_cellS [_] agg164 ty164 rfl (.tail _ (.head _)) (List.mem_singleton.2 rfl) rfl rfl) (rv_cellS [_] agg59 ty59 rfl (.head _) (List.mem_singleton.2 rfl) rfl rfl) (rv_tmp rfl)) (dr_lose ho9 (dr_lose ho8 (dr_f2 (dr_lose ho6 dr_refl)))) ?_
  exact crHit q2 ho3 hY he1
 ·
  try simp only [Z1, Z2, Z3, Z4, Z5, Z6, Z7, Z8, Z9, Z0] at q2
  refine WC.skip (WE.then_normal (WC.sub (fr' := [(0, _), (2, _), (3, _), (4, _), (6, _), (8, _), (9, _)]) ?_ ⟨rfl, rfl, rfl, rfl, rfl, rfl, rfl, trivial⟩))
  refine WC.seq (WC.region ?_)
  refine WL.q (oq_move rfl) rfl rfl rfl ?_
  refine WL.q (oq_move rfl) rfl rfl rfl ?_
  refine WL.q (oq_loadS [_] agg161 ty161 rfl (.tail _ (.tail _ (.tail _ (.tail _ (.head _))))) (List.mem_singleton.2 rfl) rfl rfl) rfl rfl rfl ?_
  refine WL.f7 ?_
  refine WL.f7 ?_
  refine WL.f7 ?_
  refine WL.f4 ?_
  refine WL.f4 ?_
  refine WL.callWF (fun a w hf hw => ent_invH (hiH) (.tail _ (.tail _ (.tail _ (.tail _ (.head _))))) rfl rfl a w hf hw) (hC (l ++ [id]) lv1 L1 ho1 (by simp only [List.length_append, List.length_cons, List.length_nil]; omega)) rfl rfl rfl rfl fun v5_3 Hs5_3 hR5_3 => ?_
  obtain ⟨lv2, L2, Y2, e2, rfl, rfl, ho2, hY2, he2⟩ := hR5_3
  refine WL.app5 ?_
  refine WL.q (oq_move rfl) rfl rfl rfl ?_
  refine WL.q (oq_extract rfl rfl) rfl rfl rfl ?_
  refine WL.q (oq_extract rfl rfl) rfl rfl rfl ?_
  refine WL.q (oq_extract rfl rfl) rfl rfl rfl ?_
  refine WL.alloc ty164 rfl rfl fun o13 ho13 => ?_
  refine WL.alloc ty59 rfl rfl fun o14 ho14 => ?_
  refine WL.f1 ?_
  refine WL.storeS #[_] ty164 rfl rfl rfl rfl (Nat.le_of_ble_eq_true rfl) rfl rfl ?_
  refine WL.f1 ?_
  refine WL.storeS #[_] ty59 rfl rfl rfl rfl (Nat.le_of_ble_eq_true rfl) rfl rfl ?_
  refine WL.q (oq_assign rfl) rfl rfl rfl ?_
  refine WL.nil (WE.then_normal (WC.sub (fr' := [(3, _), (4, _), (8, _), (9, _), (13, _), (14, _), (15, _)]) ?_ ⟨rfl, rfl, rfl, rfl, rfl, rfl, rfl, trivial⟩))
  refine WC.seq (WC.region ?_)
  refine WL.q (oq_load flat54 rfl (.tail _ (.tail _ (.tail _ (.tail _ (.tail _ (.head _)))))) (hX3) rfl) rfl rfl rfl ?_
  refine WL.q (oq_load flat9 rfl (.tail _ (.tail _ (.tail _ (.tail _ (.tail _ (.head _)))))) (hXq) rfl) rfl rfl rfl ?_
  refine WL.f3 ?_
  refine WL.f3 ?_
  refine WL.callW2 (leave _ K.cb lv2 L2 ((l ++ [id]) ++ (Tr K.stop r).1) K.stop K.fail ho2 (by simp only [List.length_append, List.length_cons, List.length_nil]; omega) id hi) call54 rfl rfl rfl fun v6_2 Hs6_2 hR6_2 => ?_
  obtain ⟨lv3, L3, rfl, ho3, rfl⟩ := hR6_2
  refine WL.to2 ?_
  refine WL.nil (WE.then_normal (WC.sub (fr' := [(8, _), (9, _), (13, _), (14, _), (15, _)]) ?_ ⟨rfl, rfl, rfl, rfl, rfl, trivial⟩))
  refine WC.seq ?_
  refine WC.f2 ?_
  refine WC.f3 ?_
  refine WC.cat ?_
  refine WC.gate 4 (([(o13, Obj.cells #[.nilIface] 164 (0, 0))] ++ [(o14, Obj.cells #[.map none] 59 (0, 0))])) (by kernel_rfl) ?_
  refine WG.q 0 [] rfl (.head _) (fun w0 => oq_loadS [_] agg164 ty164 rfl (.head _) (List.mem_append_left _ (List.mem_singleton.2 rfl)) rfl rfl) rfl rfl rfl ?_
  refine WG.q 1 [] rfl (.head _) (fun w0 => oq_loadS [_] agg59 ty59 rfl (.head _) (List.mem_append_right _ (List.mem_singleton.2 rfl)) rfl rfl) rfl rfl rfl ?_
  refine WG.p 2 rfl (.inr (.head _)) (fun w0 => oq_move rfl) rfl rfl rfl ?_
  refine WG.step (i := 3) (by kernel_rfl) rfl ?_
  refine WL.f7 ?_
  refine WL.storeS #[_] ty164 rfl rfl rfl rfl (Nat.le_of_ble_eq_true rfl) rfl rfl ?_
  refine WL.nil ?_
  refine WE.toG (.tail _ (.head _)) ?_
  refine WG.step (i := 4) (by kernel_rfl) rfl ?_
  refine WL.f7 ?_
  refine WL.storeS #[_] ty59 rfl rfl rfl rfl (Nat.le_of_ble_eq_true rfl) rfl rfl ?_
  refine WL.nil ?_
  refine WE.toG0 (by kernel_rfl) ?_
  refine WG.p 5 rfl (.inl (by kernel_rfl)) (fun w0 => oq_assign rfl) rfl rfl rfl ?_
  refine WG.done (by kernel_rfl) ?_
  refine WE.then_normal (WC.sub (fr' := [(8, _), (9, _), (10, _)]) ?_ ⟨rfl, rfl, rfl, trivial⟩)
  refine WC.ret ?_
  refine WE.endDW [_, _, _, _, _] (.inl rfl) (rs3 Tryz.results96 (rv_cellS [_] agg164 ty164 rfl (.tail _ (.head _)) (List.mem_singleton.2 rfl) rfl rfl) (rv_cellS [_] agg59 ty59 rfl (.head _) (List.mem_singleton.2 rfl) rfl rfl) (rv_tmp rfl)) (dr_lose ho9 (dr_lose ho8 (dr_forget (fresh_cat (fresh1 ho13) (fresh1 ho14)) (dr_f5 (dr_lose ho6 dr_refl))))) ?_
  exact crMiss (by first | exact q2 | simpa using q2) ho3 hY2 he2
theorem mfh3 (base : Nat) (K : KE) (X Y : Hp) (b3 q : Nat) (id : List UInt8) (ids : List (List UInt8)) (h : Value) (hY : ∀ b o, (b, o) ∈ Y → base ≤ b) (hC : HC base K 96 [CTX, .agg #[.nilIface], h, Pt b3 0, Pt q 0] X Y (.agg #[.nilIface]) ids) (l : List (List UInt8)) (lv : Value) (L : Hp) (ho : OwL base lv L l) (hl : l.length + 2 * ids.length ≤ 100000) : FnW Tryz.prog 160 [.agg #[S id, FVN 3 b3 q], CTX, .agg #[.nilIface], h] base [CS K.cb lv K.stop K.fail, L, KB K.kb false, X, Y] (CR base K X l ids (.agg #[.nilIface])) := by
 refine FnW.enter (n := 20) Tryz.func160 rfl rfl fun w0 R0 hbase => ?_
 subst hbase
 show WC _ _ _ _ _ _ _ ([CS K.cb lv K.stop K.fail, L, KB K.kb false, X, Y, R0])
 refine WC.sub (fr' := [(0, _), (1, _), (2, _), (3, _)]) ?_ ⟨rfl, rfl, rfl, rfl, trivial⟩
 refine WC.seq (WC.region ?_)
 refine WL.box rfl rfl rfl fun o4 ho4 => ?_
 refine WL.box rfl rfl rfl fun o6 ho6 => ?_
 refine WL.alloc ty164 rfl rfl fun o8 ho8 => ?_
 refine WL.alloc ty59 rfl rfl fun o9 ho9 => ?_
 refine WL.q (oq_assign rfl) rfl rfl rfl ?_
 refine WL.nil (WE.then_normal (WC.sub (fr' := [(1, _), (3, _), (4, _), (6, _), (8, _), (9, _)]) ?_ ⟨rfl, rfl, rfl, rfl, rfl, rfl, trivial⟩))
 refine WC.seq (WC.region ?_)
 refine WL.q (oq_fieldAddr fld243_1 rfl) rfl rfl rfl ?_
 refine WL.q (oq_load flat167 rfl (.tail _ (.tail _ (.tail _ (.head _)))) (List.mem_singleton.2 rfl) rfl) rfl rfl rfl ?_
 refine WL.q (oq_move rfl) rfl rfl rfl ?_
 refine WL.q (oq_loadS [_] agg161 ty161 rfl (.tail _ (.tail _ (.head _))) (List.mem_singleton.2 rfl) rfl rfl) rfl rfl rfl ?_
 refine WL.q (oq_move rfl) rfl rfl rfl ?_
 refine WL.f8 ?_
 refine WL.f8 ?_
 refine WL.f8 ?_
 refine WL.f8 ?_
 refine WL.f8 ?_
 refine WL.callWE (args := [CTX, .agg #[.nilIface], h, Pt b3 0, Pt q 0]) (fun a w hf => run_enterv (first := []) (vs := [CTX, .agg #[.nilIface], h]) (cap := [Pt b3 0, Pt q 0]) call96 rfl rfl hf w) (hC l lv L ho hl) rfl rfl rfl rfl fun v1_5 Hs1_5 hR1_5 => ?_
 obtain ⟨lv2, L2, Y2, e2, rfl, rfl, ho2, hY2, he2⟩ := hR1_5
 refine WL.app5 ?_
 refine WL.q (oq_extract rfl rfl) rfl rfl rfl ?_
 refine WL.q (oq_extract rfl rfl) rfl rfl rfl ?_
 refine WL.q (oq_extract rfl rfl) rfl rfl rfl ?_
 refine WL.f6 ?_
 refine WL.storeS #[_] ty164 rfl rfl rfl rfl (Nat.le_of_ble_eq_true rfl) rfl rfl ?_
 refine WL.f6 ?_
 refine WL.storeS #[_] ty59 rfl rfl rfl rfl (Nat.le_of_ble_eq_true rfl) rfl rfl ?_
 refine WL.q (oq_assign rfl) rfl rfl rfl ?_
 refine WL.nil (WE.then_normal (WC.sub (fr' := [(8, _), (9, _), (10, _)]) ?_ ⟨rfl, rfl, rfl, trivial⟩))
 refine WC.ret ?_
 refine WE.endDW [_, _, _, _, _] (.inl rfl) (rs3 Tryz.results160 (rv_cellS [_] agg164 ty164 rfl (.tail _ (.head _)) (List.mem_singleton.2 rfl) rfl rfl) (rv_cellS [_] agg59 ty59 rfl (.head _) (List.mem_singleton.2 rfl) rfl rfl) (rv_tmp rfl)) (dr_lose ho9 (dr_lose ho8 (dr_f5 (dr_lose ho6 (dr_f5 (dr_lose ho4 dr_refl)))))) ?_
 exact crSame (ov' := .nilIface) ho2 hY2 he2
theorem dech3 (base : Nat) (K : KE) (X Y : Hp) (b3 q : Nat) (id : List UInt8) (ids : List (List UInt8)) (h : Value) (hY : ∀ b o, (b, o) ∈ Y → base ≤ b) (hC : HC base K 160 [.agg #[S id, FVN 3 b3 q], CTX, .agg #[.nilIface], h] X Y (.agg #[.nilIface]) ids) (l : List (List UInt8)) (lv : Value) (L : Hp) (ho : OwL base lv L l) (hl : l.length + 2 * ids.length ≤ 100000) : FnW Tryz.prog 152 [.agg #[h, .iface 243 (.agg #[S id, FVN 3 b3 q])], CTX, .agg #[.nilIface]] base [CS K.cb lv K.stop K.fail, L, KB K.kb false, X, Y] (CR base K X l ids (.agg #[.nilIface])) := by
 refine FnW.enter (n := 19) Tryz.func152 rfl rfl fun w0 R0 hbase => ?_
 subst hbase
 show WC _ _ _ _ _ _ _ ([CS K.cb lv K.stop K.fail, L, KB K.kb false, X, Y, R0])
 refine WC.sub (fr' := [(0, _), (1, _), (2, _)]) ?_ ⟨rfl, rfl, rfl, trivial⟩
 refine WC.seq (WC.region ?_)
 refine WL.box rfl rfl rfl fun o3 ho3 => ?_
 refine WL.box rfl rfl rfl fun o5 ho5 => ?_
 refine WL.alloc ty164 rfl rfl fun o6 ho6 => ?_
 refine WL.alloc ty59 rfl rfl fun o7 ho7 => ?_
 refine WL.q (oq_assign rfl) rfl rfl rfl ?_
 refine WL.nil (WE.then_normal (WC.sub (fr' := [(1, _), (3, _), (5, _), (6, _), (7, _)]) ?_ ⟨rfl, rfl, rfl, rfl, rfl, trivial⟩))
 refine WC.seq (WC.region ?_)
 refine WL.q (oq_fieldAddr fld222_1 rfl) rfl rfl rfl ?_
 refine WL.q (oq_load flat159 rfl (.tail _ (.tail _ (.tail _ (.head _)))) (List.mem_singleton.2 rfl) rfl) rfl rfl rfl ?_
 refine WL.q (oq_move rfl) rfl rfl rfl ?_
 refine WL.q (oq_loadS [_] agg161 ty161 rfl (.tail _ (.tail _ (.head _))) (List.mem_singleton.2 rfl) rfl rfl) rfl rfl rfl ?_
 refine WL.q (oq_fieldAddr fld222_0 rfl) rfl rfl rfl ?_
 refine WL.q (oq_load flat163 rfl (.tail _ (.tail _ (.tail _ (.head _)))) (List.mem_singleton.2 rfl) rfl) rfl rfl rfl ?_
 refine WL.f8 ?_
 refine WL.f8 ?_
 refine WL.f8 ?_
 refine WL.f8 ?_
 refine WL.f8 ?_
 refine WL.callWF (fun a w hf hw => ent_invH ((fun w _ => by kernel_rfl : InvH Tryz.prog Y "HandleFinalize" (.iface 243 (.agg #[S id, FVN 3 b3 q])) [CTX, .agg #[.nilIface], h] 160 [.agg #[S id, FVN 3 b3 q], CTX, .agg #[.nilIface], h])) (.tail _ (.tail _ (.tail _ (.tail _ (.head _))))) rfl rfl a w hf hw) (hC l lv L ho hl) rfl rfl rfl rfl fun v1_6 Hs1_6 hR1_6 => ?_
 obtain ⟨lv2, L2, Y2, e2, rfl, rfl, ho2, hY2, he2⟩ := hR1_6
 refine WL.app5 ?_
 refine WL.q (oq_extract rfl rfl) rfl rfl rfl ?_
 refine WL.q (oq_extract rfl rfl) rfl rfl rfl ?_
 refine WL.q (oq_extract rfl rfl) rfl rfl rfl ?_
 refine WL.f6 ?_
 refine WL.storeS #[_] ty164 rfl rfl rfl rfl (Nat.le_of_ble_eq_true rfl) rfl rfl ?_
 refine WL.f6 ?_
 refine WL.storeS #[_] ty59 rfl rfl rfl rfl (Nat.le_of_ble_eq_true rfl) rfl rfl ?_
 refine WL.q (oq_assign rfl) rfl rfl rfl ?_
 refine WL.nil (WE.then_normal (WC.sub (fr' := [(6, _), (7, _), (8, _)]) ?_ ⟨rfl, rfl, rfl, trivial⟩))
 refine WC.ret ?_
 refine WE.endDW [_, _, _, _, _] (.inl rfl) (rs3 Tryz.results152 (rv_cellS [_] agg164 ty164 rfl (.tail _ (.head _)) (List.mem_singleton.2 rfl) rfl rfl) (rv_cellS [_] agg59 ty59 rfl (.head _) (List.mem_singleton.2 rfl) rfl rfl) (rv_tmp rfl)) (dr_lose ho7 (dr_lose ho6 (dr_f5 (dr_lose ho5 (dr_f5 (dr_lose ho3 dr_refl)))))) ?_
 exact crSame (ov' := .nilIface) ho2 hY2 he2
theorem wrh3 (base : Nat) (K : KE) (X Y : Hp) (ids : List (List UInt8)) (h : Value) (hY : ∀ b o, (b, o) ∈ Y → base ≤ b) (hd : HD base K "Handle" .nilIface X Y h .nilIface ids) (l : List (List UInt8)) (lv : Value) (L : Hp) (ho : OwL base lv L l) (hl : l.length + 2 * ids.length ≤ 100000) : FnW Tryz.prog 173 [.agg #[h], CTX, .agg #[.nilIface]] base [CS K.cb lv K.stop K.fail, L, KB K.kb false, X, Y] (CR base K X l ids (.agg #[.nilIface])) := by
 obtain ⟨hf, ha, hiH, hC⟩ := hd
 refine FnW.enter (n := 24) Tryz.func173 rfl rfl fun w0 R0 hbase => ?_
 subst hbase
 show WC _ _ _ _ _ _ _ ([CS K.cb lv K.stop K.fail, L, KB K.kb false, X, Y, R0])
 refine WC.sub (fr' := [(0, _), (1, _), (2, _)]) ?_ ⟨rfl, rfl, rfl, trivial⟩
 refine WC.seq (WC.region ?_)
 refine WL.box rfl rfl rfl fun o3 ho3 => ?_
 refine WL.box rfl rfl rfl fun o5 ho5 => ?_
 refine WL.alloc ty164 rfl rfl fun o6 ho6 => ?_
 refine WL.alloc ty59 rfl rfl fun o7 ho7 => ?_
 refine WL.q (oq_assign rfl) rfl rfl rfl ?_
 refine WL.nil (WE.then_normal (WC.sub (fr' := [(1, _), (3, _), (5, _), (6, _), (7, _)]) ?_ ⟨rfl, rfl, rfl, rfl, rfl, trivial⟩))
 refine WC.seq (WC.region ?_)
 refine WL.q (oq_fieldAddr fld279_0 rfl) rfl rfl rfl ?_
 refine WL.q (oq_load flat87 rfl (.tail _ (.tail _ (.tail _ (.head _)))) (List.mem_singleton.2 rfl) rfl) rfl rfl rfl ?_
 refine WL.q (oq_move rfl) rfl rfl rfl ?_
 refine WL.q (oq_fieldAddr fld161_0 rfl) rfl rfl rfl ?_
 refine WL.q (oq_load flat20 rfl (.tail _ (.tail _ (.head _))) (List.mem_singleton.2 rfl) rfl) rfl rfl rfl ?_
 refine WL.f8 ?_
 refine WL.f8 ?_
 refine WL.f8 ?_
 refine WL.f8 ?_
 refine WL.f8 ?_
 refine WL.callWF (fun a w hf hw => ent_invH (hiH) (.tail _ (.tail _ (.tail _ (.tail _ (.head _))))) rfl rfl a w hf hw) (hC l lv L ho hl) rfl rfl rfl rfl fun v1_5 Hs1_5 hR1_5 => ?_
 obtain ⟨lv2, L2, Y2, e2, rfl, rfl, ho2, hY2, he2⟩ := hR1_5
 refine WL.app5 ?_
 refine WL.q (oq_move rfl) rfl rfl rfl ?_
 refine WL.q (oq_extract rfl rfl) rfl rfl rfl ?_
 refine WL.q (oq_extract rfl rfl) rfl rfl rfl ?_
 refine WL.q (oq_extract rfl rfl) rfl rfl rfl ?_
 refine WL.q (oq_assign rfl) rfl rfl rfl ?_
 refine WL.f5 ?_
 refine WL.storeS #[_] ty59 rfl rfl rfl rfl (Nat.le_of_ble_eq_true rfl) rfl rfl ?_
 refine WL.q (oq_assign rfl) rfl rfl rfl ?_
 refine WL.nil (WE.then_normal (WC.sub (fr' := [(6, _), (7, _), (8, _), (9, _)]) ?_ ⟨rfl, rfl, rfl, rfl, trivial⟩))
 refine WC.seq ?_
 refine WC.gate 5 ([(o7, Obj.cells #[.map none] 59 (0, 0))]) (by kernel_rfl) ?_
 refine WG.q 0 [] rfl (.head _) (fun w0 => oq_move rfl) rfl rfl rfl ?_
 refine WG.q 1 [] rfl (.head _) (fun w0 => oq_build #[_] str164 ty164 rfl rfl) rfl rfl rfl ?_
 refine WG.q 2 [] rfl (.head _) (fun w0 => oq_loadS [_] agg59 ty59 rfl (.head _) (List.mem_singleton.2 rfl) rfl rfl) rfl rfl rfl ?_
 refine WG.p 3 rfl (.inr (.head _)) (fun w0 => oq_move rfl) rfl rfl rfl ?_
 refine WG.step (i := 4) (by kernel_rfl) rfl ?_
 refine WL.f6 ?_
 refine WL.storeS #[_] ty164 rfl rfl rfl rfl (Nat.le_of_ble_eq_true rfl) rfl rfl ?_
 refine WL.nil ?_
 refine WE.toG (.tail _ (.head _)) ?_
 refine WG.step (i := 5) (by kernel_rfl) rfl ?_
 refine WL.f1 ?_
 refine WL.storeS #[_] ty59 rfl rfl rfl rfl (Nat.le_of_ble_eq_true rfl) rfl rfl ?_
 refine WL.nil ?_
 refine WE.toG0 (by kernel_rfl) ?_
 refine WG.p 6 rfl (.inl (by kernel_rfl)) (fun w0 => oq_assign rfl) rfl rfl rfl ?_
 refine WG.done (by kernel_rfl) ?_
 refine WE.then_normal (WC.sub (fr' := [(6, _), (7, _), (8, _)]) ?_ ⟨rfl, rfl, rfl, trivial⟩)
 refine WC.ret ?_
 refine WE.endDW [_, _, _, _, _] (.inl rfl) (rs3 Tryz.results173 (rv_cellS [_] agg164 ty164 rfl (.tail _ (.head _)) (List.mem_singleton.2 rfl) rfl rfl) (rv_cellS [_] agg59 ty59 rfl (.head _) (List.mem_singleton.2 rfl) rfl rfl) (rv_tmp rfl)) (dr_lose ho7 (dr_lose ho6 (dr_f5 (dr_lose ho5 (dr_f5 (dr_lose ho3 dr_refl)))))) ?_
 exact crSame (ov' := .nilIface) ho2 hY2 he2
theorem inner4 (base : Nat) (K : KE) (b3 q : Nat) (id : List UInt8) (r : List (List UInt8)) (X Y : Hp) (h : Value) (hi : id.length ≤ 100000) (hX3 : (b3, Obj.cells #[Pt K.cb 0] 54 (0, 0)) ∈ X) (hXq : (q, Obj.cells #[S id] 9 (0, 0)) ∈ X) (hY : ∀ b o, (b, o) ∈ Y → base ≤ b) (hd : HD base K "HandleDeserialize" (.agg #[.nilIface]) X Y h (.agg #[.nilIface, .nilIface]) r) (l : List (List UInt8)) (lv : Value) (L : Hp) (ho : OwL base lv L l) (hl : l.length + 2 * (id :: r).length ≤ 100000) : FnW Tryz.prog 110 [CTX, .agg #[.nilIface], h, Pt b3 0, Pt q 0] base [CS K.cb lv K.stop K.fail, L, KB K.kb false, X, Y] (CR base K X l (id :: r) (.agg #[.nilIface, .nilIface])) := by
 have hl2 : l.length + 2 * (r.length + 1) ≤ 100000 := hl
 have hTr := Tr_len K.stop r
 obtain ⟨hf, ha, hiH, hC⟩ := hd
 refine FnW.enter (n := 43) Tryz.func110 rfl rfl fun w0 R0 hbase => ?_
 subst hbase
 show WC _ _ _ _ _ _ _ ([CS K.cb lv K.stop K.fail, L, KB K.kb false, X, Y, R0])
 refine WC.sub (fr' := [(0, _), (1, _), (2, _), (3, _), (4, _)]) ?_ ⟨rfl, rfl, rfl, rfl, rfl, trivial⟩
 refine WC.seq (WC.region ?_)
 refine WL.box rfl rfl rfl fun o6 ho6 => ?_
 refine WL.alloc ty183 rfl rfl fun o8 ho8 => ?_
 refine WL.alloc ty59 rfl rfl fun o9 ho9 => ?_
 refine WL.q (oq_assign rfl) rfl rfl rfl ?_
 refine WL.nil (WE.then_normal (WC.sub (fr' := [(0, _), (2, _), (3, _), (4, _), (6, _), (8, _), (9, _)]) ?_ ⟨rfl, rfl, rfl, rfl, rfl, rfl, rfl, trivial⟩))
 refine WC.seq (WC.seq (WC.region ?_))
 refine WL.q (oq_load flat54 rfl (.tail _ (.tail _ (.tail _ (.tail _ (.tail _ (.tail _ (.head _))))))) (hX3) rfl) rfl rfl rfl ?_
 refine WL.q (oq_load flat9 rfl (.tail _ (.tail _ (.tail _ (.tail _ (.tail _ (.tail _ (.head _))))))) (hXq) rfl) rfl rfl rfl ?_
 refine WL.f4 ?_
 refine WL.f4 ?_
 refine WL.callW2 (enter _ K.cb lv L l K.stop K.fail ho (by omega) id) call53 rfl rfl rfl fun v1_2 Hs1_2 hR1_2 => ?_
 obtain ⟨lv1, L1, e1, rfl, ho1, rfl, he1⟩ := hR1_2
 refine WL.to2 ?_
 refine WL.q (oq_move rfl) rfl rfl rfl ?_
 refine WL.q (oq_extract rfl rfl) rfl rfl rfl ?_
 refine WL.q (oq_extract rfl rfl) rfl rfl rfl ?_
 refine WL.q (oq_assign rfl) rfl rfl rfl ?_
 refine WL.q (oq_assign rfl) rfl rfl rfl ?_
 refine WL.nil (WE.then_normal (WC.sub (fr' := [(0, _), (2, _), (3, _), (4, _), (6, _), (8, _), (9, _), (11, _), (12, _)]) ?_ ⟨rfl, rfl, rfl, rfl, rfl, rfl, rfl, rfl, rfl, trivial⟩))
 refine WC.seq (WC.region ?_)
 refine WL.q (oq_move rfl) rfl rfl rfl ?_
 refine WL.nil (WE.then_normal (WC.sub (fr' := [(0, _), (2, _), (3, _), (4, _), (6, _), (8, _), (9, _), (12, _), (22, _)]) ?_ ⟨rfl, rfl, rfl, rfl, rfl, rfl, rfl, rfl, rfl, trivial⟩))
 refine WC.cond rfl (fun q2 => ?_) (fun q2 => ?_)
 ·
  try simp only [Z1, Z2, Z3, Z4, Z5, Z6, Z7, Z8, Z9, Z0] at q2
  refine WC.seq (WC.region ?_)
  refine WL.q (oq_load flat54 rfl (.tail _ (.tail _ (.tail _ (.tail _ (.tail _ (.tail _ (.head _))))))) (hX3) rfl) rfl rfl rfl ?_
  refine WL.q (oq_load flat9 rfl (.tail _ (.tail _ (.tail _ (.tail _ (.tail _ (.tail _ (.head _))))))) (hXq) rfl) rfl rfl rfl ?_
  refine WL.f1 ?_
  refine WL.f1 ?_
  refine WL.callW2 (leave _ K.cb lv1 L1 (l ++ [id]) K.stop K.fail ho1 (by simp only [List.length_append, List.length_cons, List.length_nil]; omega) id hi) call54 rfl rfl rfl fun v3_2 Hs3_2 hR3_2 => ?_
  obtain ⟨lv3, L3, rfl, ho3, rfl⟩ := hR3_2
  refine WL.to2 ?_
  refine WL.nil (WE.then_normal (WC.sub (fr' := [(8, _), (9, _), (12, _)]) ?_ ⟨rfl, rfl, rfl, trivial⟩))
  refine WC.seq (WC.region ?_)
  refine WL.q (oq_build #[_, _] str183 ty183 rfl rfl) rfl rfl rfl ?_
  refine WL.q (oq_build #[_] str59 ty59 rfl rfl) rfl rfl rfl ?_
  refine WL.q (oq_move rfl) rfl rfl rfl ?_
  refine WL.f3 ?_
  refine WL.storeS #[_, _] ty183 rfl rfl rfl rfl (Nat.le_of_ble_eq_true rfl) rfl rfl ?_
  refine WL.f3 ?_
  refine WL.storeS #[_] ty59 rfl rfl rfl rfl (Nat.le_of_ble_eq_true rfl) rfl rfl ?_
  refine WL.q (oq_assign rfl) rfl rfl rfl ?_
  refine WL.nil (WE.then_normal (WC.sub (fr' := [(8, _), (9, _), (10, _)]) ?_ ⟨rfl, rfl, rfl, trivial⟩))
  refine WC.ret (WE.then_ret ?_)
  refine WE.endDW [_, _, _, _, _] (.inl rfl) (rs3 Tryz.results110 (rv_cellS [_, _] agg183 ty183 rfl (.tail _ (.head _)) (List.mem_singleton.2 rfl) rfl rfl) (rv_cellS [_] agg59 ty59 rfl (.head _) (List.mem_singleton.2 rfl) rfl rfl) (rv_tmp rfl)) (dr_lose ho9 (dr_lose ho8 (dr_f2 (dr_lose ho6 dr_refl)))) ?_
  exact crHit q2 ho3 hY he1
 ·
  try simp only [Z1, Z2, Z3, Z4, Z5, Z6, Z7, Z8, Z9, Z0] at q2
  refine WC.skip (WE.then_normal (WC.sub (fr' := [(0, _), (2, _), (3, _), (4, _), (6, _), (8, _), (9, _)]) ?_ ⟨rfl, rfl, rfl, rfl, rfl, rfl, rfl, trivial⟩))
  refine WC.seq (WC.region ?_)
  refine WL.q (oq_move rfl) rfl rfl rfl ?_
  refine WL.q (oq_move rfl) rfl rfl rfl ?_
  refine WL.q (oq_loadS [_] agg179 ty179 rfl (.tail _ (.tail _ (.tail _ (.tail _ (.head _))))) (List.mem_singleton.2 rfl) rfl rfl) rfl rfl rfl ?_
  refine WL.f7 ?_
  refine WL.f7 ?_
  refine WL.f7 ?_
  refine WL.f4 ?_
  refine WL.f4 ?_
  refine WL.callWF (fun a w hf hw => ent_invH (hiH) (.tail _ (.tail _ (.tail _ (.tail _ (.head _))))) rfl rfl a w hf hw) (hC (l ++ [id]) lv1 L1 ho1 (by simp only [List.length_append, List.length_cons, List.length_nil]; omega)) rfl rfl rfl rfl fun v5_3 Hs5_3 hR5_3 => ?_
  obtain ⟨lv2, L2, Y2, e2, rfl, rfl, ho2, hY2, he2⟩ := hR5_3
  refine WL.app5 ?_
  refine WL.q (oq_move rfl) rfl rfl rfl ?_
  refine WL.q (oq_extract rfl rfl) rfl rfl rfl ?_
  refine WL.q (oq_extract rfl rfl) rfl rfl rfl ?_
  refine WL.q (oq_extract rfl rfl) rfl rfl rfl ?_
  refine WL.alloc ty183 rfl rfl fun o13 ho13 => ?_
  refine WL.alloc ty59 rfl rfl fun o14 ho14 => ?_
  refine WL.f1 ?_
  refine WL.storeS #[_, _] ty183 rfl rfl rfl rfl (Nat.le_of_ble_eq_true rfl) rfl rfl ?_
  refine WL.f1 ?_
  refine WL.storeS #[_] ty59 rfl rfl rfl rfl (Nat.le_of_ble_eq_true rfl) rfl rfl ?_
  refine WL.q (oq_assign rfl) rfl rfl rfl ?_
  refine WL.nil (WE.then_normal (WC.sub (fr' := [(3, _), (4, _), (8, _), (9, _), (13, _), (14, _), (15, _)]) ?_ ⟨rfl, rfl, rfl, rfl, rfl, rfl, rfl, trivial⟩))
  refine WC.seq (WC.region ?_)
  refine WL.q (oq_load flat54 rfl (.tail _ (.tail _ (.tail _ (.tail _ (.tail _ (.head _)))))) (hX3) rfl) rfl rfl rfl ?_
  refine WL.q (oq_load flat9 rfl (.tail _ (.tail _ (.tail _ (.tail _ (.tail _ (.head _)))))) (hXq) rfl) rfl rfl rfl ?_
  refine WL.f3 ?_
  refine WL.f3 ?_
  refine WL.callW2 (leave _ K.cb lv2 L2 ((l ++ [id]) ++ (Tr K.stop r).1) K.stop K.fail ho2 (by simp only [List.length_append, List.length_cons, List.length_nil]; omega) id hi) call54 rfl rfl rfl fun v6_2 Hs6_2 hR6_2 => ?_
  obtain ⟨lv3, L3, rfl, ho3, rfl⟩ := hR6_2
  refine WL.to2 ?_
  refine WL.nil (WE.then_normal (WC.sub (fr' := [(8, _), (9, _), (13, _), (14, _), (15, _)]) ?_ ⟨rfl, rfl, rfl, rfl, rfl, trivial⟩))
  refine WC.seq ?_
  refine WC.f2 ?_
  refine WC.f3 ?_
  refine WC.cat ?_
  refine WC.gate 4 (([(o13, Obj.cells #[.nilIface, .nilIface] 183 (0, 0))] ++ [(o14, Obj.cells #[.map none] 59 (0, 0))])) (by kernel_rfl) ?_
  refine WG.q 0 [] rfl (.head _) (fun w0 => oq_loadS [_, _] agg183 ty183 rfl (.head _) (List.mem_append_left _ (List.mem_singleton.2 rfl)) rfl rfl) rfl rfl rfl ?_
  refine WG.q 1 [] rfl (.head _) (fun w0 => oq_loadS [_] agg59 ty59 rfl (.head _) (List.mem_append_right _ (List.mem_singleton.2 rfl)) rfl rfl) rfl rfl rfl ?_
  refine WG.p 2 rfl (.inr (.head _)) (fun w0 => oq_move rfl) rfl rfl rfl ?_
  refine WG.step (i := 3) (by kernel_rfl) rfl ?_
  refine WL.f7 ?_
  refine WL.storeS #[_, _] ty183 rfl rfl rfl rfl (Nat.le_of_ble_eq_true rfl) rfl rfl ?_
  refine WL.nil ?_
  refine WE.toG (.tail _ (.head _)) ?_
  refine WG.step (i := 4) (by kernel_rfl) rfl ?_
  refine WL.f7 ?_
  refine WL.storeS #[_] ty59 rfl rfl rfl rfl (Nat.le_of_ble_eq_true rfl) rfl rfl ?_
  refine WL.nil ?_
  refine WE.toG0 (by kernel_rfl) ?_
  refine WG.p 5 rfl (.inl (by kernel_rfl)) (fun w0 => oq_assign rfl) rfl rfl rfl ?_
  refine WG.done (by kernel_rfl) ?_
  refine WE.then_normal (WC.sub (fr' := [(8, _), (9, _), (10, _)]) ?_ ⟨rfl, rfl, rfl, trivial⟩)
  refine WC.ret ?_
  refine WE.endDW [_, _, _, _, _] (.inl rfl) (rs3 Tryz.results110 (rv_cellS [_, _] agg183 ty183 rfl (.tail _ (.head _)) (List.mem_singleton.2 rfl) rfl rfl) (rv_cellS [_] agg59 ty59 rfl (.head _) (List.mem_singleton.2 rfl) rfl rfl) (rv_tmp rfl)) (dr_lose ho9 (dr_lose ho8 (dr_forget (fresh_cat (fresh1 ho13) (fresh1 ho14)) (dr_f5 (dr_lose ho6 dr_refl))))) ?_
  exact crMiss (by first | exact q2 | simpa using q2) ho3 hY2 he2
theorem mfh4 (base : Nat) (K : KE) (X Y : Hp) (b3 q : Nat) (id : List UInt8) (ids : List (List UInt8)) (h : Value) (hY : ∀ b o, (b, o) ∈ Y → base ≤ b) (hC : HC base K 110 [CTX, .agg #[.nilIface], h, Pt b3 0, Pt q 0] X Y (.agg #[.nilIface, .nilIface]) ids) (l : List (List UInt8)) (lv : Value) (L : Hp) (ho : OwL base lv L l) (hl : l.length + 2 * ids.length ≤ 100000) : FnW Tryz.prog 162 [.agg #[S id, FVN 4 b3 q], CTX, .agg #[.nilIface], h] base [CS K.cb lv K.stop K.fail, L, KB K.kb false, X, Y] (CR base K X l ids (.agg #[.nilIface, .nilIface])) := by
 refine FnW.enter (n := 20) Tryz.func162 rfl rfl fun w0 R0 hbase => ?_
 subst hbase
 show WC _ _ _ _ _ _ _ ([CS K.cb lv K.stop K.fail, L, KB K.kb false, X, Y, R0])
 refine WC.sub (fr' := [(0, _), (1, _), (2, _), (3, _)]) ?_ ⟨rfl, rfl, rfl, rfl, trivial⟩
 refine WC.seq (WC.region ?_)
 refine WL.box rfl rfl rfl fun o4 ho4 => ?_
 refine WL.box rfl rfl rfl fun o6 ho6 => ?_
 refine WL.alloc ty183 rfl rfl fun o8 ho8 => ?_
 refine WL.alloc ty59 rfl rfl fun o9 ho9 => ?_
 refine WL.q (oq_assign rfl) rfl rfl rfl ?_
 refine WL.nil (WE.then_normal (WC.sub (fr' := [(1, _), (3, _), (4, _), (6, _), (8, _), (9, _)]) ?_ ⟨rfl, rfl, rfl, rfl, rfl, rfl, trivial⟩))
 refine WC.seq (WC.region ?_)
 refine WL.q (oq_fieldAddr fld247_1 rfl) rfl rfl rfl ?_
 refine WL.q (oq_load flat186 rfl (.tail _ (.tail _ (.tail _ (.head _)))) (List.mem_singleton.2 rfl) rfl) rfl rfl rfl ?_
 refine WL.q (oq_move rfl) rfl rfl rfl ?_
 refine WL.q (oq_loadS [_] agg179 ty179 rfl (.tail _ (.tail _ (.head _))) (List.mem_singleton.2 rfl) rfl rfl) rfl rfl rfl ?_
 refine WL.q (oq_move rfl) rfl rfl rfl ?_
 refine WL.f8 ?_
 refine WL.f8 ?_
 refine WL.f8 ?_
 refine WL.f8 ?_
 refine WL.f8 ?_
 refine WL.callWE (args := [CTX, .agg #[.nilIface], h, Pt b3 0, Pt q 0]) (fun a w hf => run_enterv (first := []) (vs := [CTX, .agg #[.nilIface], h]) (cap := [Pt b3 0, Pt q 0]) call110 rfl rfl hf w) (hC l lv L ho hl) rfl rfl rfl rfl fun v1_5 Hs1_5 hR1_5 => ?_
 obtain ⟨lv2, L2, Y2, e2, rfl, rfl, ho2, hY2, he2⟩ := hR1_5
 refine WL.app5 ?_
 refine WL.q (oq_extract rfl rfl) rfl rfl rfl ?_
 refine WL.q (oq_extract rfl rfl) rfl rfl rfl ?_
 refine WL.q (oq_extract rfl rfl) rfl rfl rfl ?_
 refine WL.f6 ?_
 refine WL.storeS #[_, _] ty183 rfl rfl rfl rfl (Nat.le_of_ble_eq_true rfl) rfl rfl ?_
 refine WL.f6 ?_
 refine WL.storeS #[_] ty59 rfl rfl rfl rfl (Nat.le_of_ble_eq_true rfl) rfl rfl ?_
 refine WL.q (oq_assign rfl) rfl rfl rfl ?_
 refine WL.nil (WE.then_normal (WC.sub (fr' := [(8, _), (9, _), (10, _)]) ?_ ⟨rfl, rfl, rfl, trivial⟩))
 refine WC.ret ?_
 refine WE.endDW [_, _, _, _, _] (.inl rfl) (rs3 Tryz.results162 (rv_cellS [_, _] agg183 ty183 rfl (.tail _ (.head _)) (List.mem_singleton.2 rfl) rfl rfl) (rv_cellS [_] agg59 ty59 rfl (.head _) (List.mem_singleton.2 rfl) rfl rfl) (rv_tmp rfl)) (dr_lose ho9 (dr_lose ho8 (dr_f5 (dr_lose ho6 (dr_f5 (dr_lose ho4 dr_refl)))))) ?_
 exact crSame (ov' := .nilIface) ho2 hY2 he2
theorem dech4 (base : Nat) (K : KE) (X Y : Hp) (b3 q : Nat) (id : List UInt8) (ids : List (List UInt8)) (h : Value) (hY : ∀ b o, (b, o) ∈ Y → base ≤ b) (hC : HC base K 162 [.agg #[S id, FVN 4 b3 q], CTX, .agg #[.nilIface], h] X Y (.agg #[.nilIface, .nilIface]) ids) (l : List (List UInt8)) (lv : Value) (L : Hp) (ho : OwL base lv L l) (hl : l.length + 2 * ids.length ≤ 100000) : FnW Tryz.prog 153 [.agg #[h, .iface 247 (.agg #[S id, FVN 4 b3 q])], CTX, .agg #[.nilIface]] base [CS K.cb lv K.stop K.fail, L, KB K.kb false, X, Y] (CR base K X l ids (.agg #[.nilIface, .nilIface])) := by
 refine FnW.enter (n := 19) Tryz.func153 rfl rfl fun w0 R0 hbase => ?_
 subst hbase
 show WC _ _ _ _ _ _ _ ([CS K.cb lv K.stop K.fail, L, KB K.kb false, X, Y, R0])
 refine WC.sub (fr' := [(0, _), (1, _), (2, _)]) ?_ ⟨rfl, rfl, rfl, trivial⟩
 refine WC.seq (WC.region ?_)
 refine WL.box rfl rfl rfl fun o3 ho3 => ?_
 refine WL.box rfl rfl rfl fun o5 ho5 => ?_
 refine WL.alloc ty183 rfl rfl fun o6 ho6 => ?_
 refine WL.alloc ty59 rfl rfl fun o7 ho7 => ?_
 refine WL.q (oq_assign rfl) rfl rfl rfl ?_
 refine WL.nil (WE.then_normal (WC.sub (fr' := [(1, _), (3, _), (5, _), (6, _), (7, _)]) ?_ ⟨rfl, rfl, rfl, rfl, rfl, trivial⟩))
 refine WC.seq (WC.region ?_)
 refine WL.q (oq_fieldAddr fld228_1 rfl) rfl rfl rfl ?_
 refine WL.q (oq_load flat177 rfl (.tail _ (.tail _ (.tail _ (.head _)))) (List.mem_singleton.2 rfl) rfl) rfl rfl rfl ?_
 refine WL.q (oq_move rfl) rfl rfl rfl ?_
 refine WL.q (oq_loadS [_] agg179 ty179 rfl (.tail _ (.tail _ (.head _))) (List.mem_singleton.2 rfl) rfl rfl) rfl rfl rfl ?_
 refine WL.q (oq_fieldAddr fld228_0 rfl) rfl rfl rfl ?_
 refine WL.q (oq_load flat181 rfl (.tail _ (.tail _ (.tail _ (.head _)))) (List.mem_singleton.2 rfl) rfl) rfl rfl rfl ?_
 refine WL.f8 ?_
 refine WL.f8 ?_
 refine WL.f8 ?_
 refine WL.f8 ?_
 refine WL.f8 ?_
 refine WL.callWF (fun a w hf hw => ent_invH ((fun w _ => by kernel_rfl : InvH Tryz.prog Y "HandleDeserialize" (.iface 247 (.agg #[S id, FVN 4 b3 q])) [CTX, .agg #[.nilIface], h] 162 [.agg #[S id, FVN 4 b3 q], CTX, .agg #[.nilIface], h])) (.tail _ (.tail _ (.tail _ (.tail _ (.head _))))) rfl rfl a w hf hw) (hC l lv L ho hl) rfl rfl rfl rfl fun v1_6 Hs1_6 hR1_6 => ?_
 obtain ⟨lv2, L2, Y2, e2, rfl, rfl, ho2, hY2, he2⟩ := hR1_6
 refine WL.app5 ?_
 refine WL.q (oq_extract rfl rfl) rfl rfl rfl ?_
 refine WL.q (oq_extract rfl rfl) rfl rfl rfl ?_
 refine WL.q (oq_extract rfl rfl) rfl rfl rfl ?_
 refine WL.f6 ?_
 refine WL.storeS #[_, _] ty183 rfl rfl rfl rfl (Nat.le_of_ble_eq_true rfl) rfl rfl ?_
 refine WL.f6 ?_
 refine WL.storeS #[_] ty59 rfl rfl rfl rfl (Nat.le_of_ble_eq_true rfl) rfl rfl ?_
 refine WL.q (oq_assign rfl) rfl rfl rfl ?_
 refine WL.nil (WE.then_normal (WC.sub (fr' := [(6, _), (7, _), (8, _)]) ?_ ⟨rfl, rfl, rfl, trivial⟩))
 refine WC.ret ?_
 refine WE.endDW [_, _, _, _, _] (.inl rfl) (rs3 Tryz.results153 (rv_cellS [_, _] agg183 ty183 rfl (.tail _ (.head _)) (List.mem_singleton.2 rfl) rfl rfl) (rv_cellS [_] agg59 ty59 rfl (.head _) (List.mem_singleton.2 rfl) rfl rfl) (rv_tmp rfl)) (dr_lose ho7 (dr_lose ho6 (dr_f5 (dr_lose ho5 (dr_f5 (dr_lose ho3 dr_refl)))))) ?_
 exact crSame (ov' := .nilIface) ho2 hY2 he2
theorem wrh4 (base : Nat) (K : KE) (X Y : Hp) (ids : List (List UInt8)) (h : Value) (hY : ∀ b o, (b, o) ∈ Y → base ≤ b) (hd : HD base K "Handle" .nilIface X Y h .nilIface ids) (l : List (List UInt8)) (lv : Value) (L : Hp) (ho : OwL base lv L l) (hl : l.length + 2 * ids.length ≤ 100000) : FnW Tryz.prog 175 [.agg #[h], CTX, .agg #[.nilIface]] base [CS K.cb lv K.stop K.fail, L, KB K.kb false, X, Y] (CR base K X l ids (.agg #[.nilIface, .nilIface])) := by
 obtain ⟨hf, ha, hiH, hC⟩ := hd
 refine FnW.enter (n := 24) Tryz.func175 rfl rfl fun w0 R0 hbase => ?_
 subst hbase
 show WC _ _ _ _ _ _ _ ([CS K.cb lv K.stop K.fail, L, KB K.kb false, X, Y, R0])
 refine WC.sub (fr' := [(0, _), (1, _), (2, _)]) ?_ ⟨rfl, rfl, rfl, trivial⟩
 refine WC.seq (WC.region ?_)
 refine WL.box rfl rfl rfl fun o3 ho3 => ?_
 refine WL.box rfl rfl rfl fun o5 ho5 => ?_
 refine WL.alloc ty183 rfl rfl fun o6 ho6 => ?_
 refine WL.alloc ty59 rfl rfl fun o7 ho7 => ?_
 refine WL.q (oq_assign rfl) rfl rfl rfl ?_
 refine WL.nil (WE.then_normal (WC.sub (fr' := [(1, _), (3, _), (5, _), (6, _), (7, _)]) ?_ ⟨rfl, rfl, rfl, rfl, rfl, trivial⟩))
 refine WC.seq (WC.region ?_)
 refine WL.q (oq_fieldAddr fld281_0 rfl) rfl rfl rfl ?_
 refine WL.q (oq_load flat87 rfl (.tail _ (.tail _ (.tail _ (.head _)))) (List.mem_singleton.2 rfl) rfl) rfl rfl rfl ?_
 refine WL.q (oq_move rfl) rfl rfl rfl ?_
 refine WL.q (oq_fieldAddr fld179_0 rfl) rfl rfl rfl ?_
 refine WL.q (oq_load flat20 rfl (.tail _ (.tail _ (.head _))) (List.mem_singleton.2 rfl) rfl) rfl rfl rfl ?_
 refine WL.f8 ?_
 refine WL.f8 ?_
 refine WL.f8 ?_
 refine WL.f8 ?_
 refine WL.f8 ?_
 refine WL.callWF (fun a w hf hw => ent_invH (hiH) (.tail _ (.tail _ (.tail _ (.tail _ (.head _))))) rfl rfl a w hf hw) (hC l lv L ho hl) rfl rfl rfl rfl fun v1_5 Hs1_5 hR1_5 => ?_
 obtain ⟨lv2, L2, Y2, e2, rfl, rfl, ho2, hY2, he2⟩ := hR1_5
 refine WL.app5 ?_
 refine WL.q (oq_move rfl) rfl rfl rfl ?_
 refine WL.q (oq_extract rfl rfl) rfl rfl rfl ?_
 refine WL.q (oq_extract rfl rfl) rfl rfl rfl ?_
 refine WL.q (oq_extract rfl rfl) rfl rfl rfl ?_
 refine WL.q (oq_assign rfl) rfl rfl rfl ?_
 refine WL.f5 ?_
 refine WL.storeS #[_] ty59 rfl rfl rfl rfl (Nat.le_of_ble_eq_true rfl) rfl rfl ?_
 refine WL.q (oq_assign rfl) rfl rfl rfl ?_
 refine WL.nil (WE.then_normal (WC.sub (fr' := [(6, _), (7, _), (8, _), (9, _)]) ?_ ⟨rfl, rfl, rfl, rfl, trivial⟩))
 refine WC.seq ?_
 refine WC.gate 5 ([(o7, Obj.cells #[.map none] 59 (0, 0))]) (by kernel_rfl) ?_
 refine WG.q 0 [] rfl (.head _) (fun w0 => oq_move rfl) rfl rfl rfl ?_
 refine WG.q 1 [] rfl (.head _) (fun w0 => oq_build #[_, _] str183 ty183 rfl rfl) rfl rfl rfl ?_
 refine WG.q 2 [] rfl (.head _) (fun w0 => oq_loadS [_] agg59 ty59 rfl (.head _) (List.mem_singleton.2 rfl) rfl rfl) rfl rfl rfl ?_
 refine WG.p 3 rfl (.inr (.head _)) (fun w0 => oq_move rfl) rfl rfl rfl ?_
 refine WG.step (i := 4) (by kernel_rfl) rfl ?_
 refine WL.f6 ?_
 refine WL.storeS #[_, _] ty183 rfl rfl rfl rfl (Nat.le_of_ble_eq_true rfl) rfl rfl ?_
 refine WL.nil ?_
 refine WE.toG (.tail _ (.head _)) ?_
 refine WG.step (i := 5) (by kernel_rfl) rfl ?_
 refine WL.f1 ?_
 refine WL.storeS #[_] ty59 rfl rfl rfl rfl (Nat.le_of_ble_eq_true rfl) rfl rfl ?_
 refine WL.nil ?_
 refine WE.toG0 (by kernel_rfl) ?_
 refine WG.p 6 rfl (.inl (by kernel_rfl)) (fun w0 => oq_assign rfl) rfl rfl rfl ?_
 refine WG.done (by kernel_rfl) ?_
 refine WE.then_normal (WC.sub (fr' := [(6, _), (7, _), (8, _)]) ?_ ⟨rfl, rfl, rfl, trivial⟩)
 refine WC.ret ?_
 refine WE.endDW [_, _, _, _, _] (.inl rfl) (rs3 Tryz.results175 (rv_cellS [_, _] agg183 ty183 rfl (.tail _ (.head _)) (List.mem_singleton.2 rfl) rfl rfl) (rv_cellS [_] agg59 ty59 rfl (.head _) (List.mem_singleton.2 rfl) rfl rfl) (rv_tmp rfl)) (dr_lose ho7 (dr_lose ho6 (dr_f5 (dr_lose ho5 (dr_f5 (dr_lose ho3 dr_refl)))))) ?_
 exact crSame (ov' := .nilIface) ho2 hY2 he2
end SK
end Go.Proofs.YtiegaefkahnfjaaGreat
