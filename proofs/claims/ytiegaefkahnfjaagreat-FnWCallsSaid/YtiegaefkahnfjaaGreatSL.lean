/- Stacks that are called: the chain of a step; a step. -/
import Derived.Test.YtiegaefkahnfjaaGreatSK
namespace Go.Proofs.YtiegaefkahnfjaaGreat
open Go Go.RowKit V S0 S1 S2 S3 S4 S5 S6 S7 S8 SJ SK
set_option linter.unusedSimpArgs false
set_option linter.unusedVariables false
set_option maxRecDepth 10000
namespace SL
theorem call28 : Callable Tryz.prog 28 := ⟨_, Tryz.func28, rfl, by kernel_rfl⟩
theorem call149 : Callable Tryz.prog 149 := ⟨_, Tryz.func149, rfl, by kernel_rfl⟩
theorem call150 : Callable Tryz.prog 150 := ⟨_, Tryz.func150, rfl, by kernel_rfl⟩
theorem call151 : Callable Tryz.prog 151 := ⟨_, Tryz.func151, rfl, by kernel_rfl⟩
theorem call152 : Callable Tryz.prog 152 := ⟨_, Tryz.func152, rfl, by kernel_rfl⟩
theorem call153 : Callable Tryz.prog 153 := ⟨_, Tryz.func153, rfl, by kernel_rfl⟩
theorem call167 : Callable Tryz.prog 167 := ⟨_, Tryz.func167, rfl, by kernel_rfl⟩
theorem call169 : Callable Tryz.prog 169 := ⟨_, Tryz.func169, rfl, by kernel_rfl⟩
theorem call171 : Callable Tryz.prog 171 := ⟨_, Tryz.func171, rfl, by kernel_rfl⟩
theorem call173 : Callable Tryz.prog 173 := ⟨_, Tryz.func173, rfl, by kernel_rfl⟩
theorem call175 : Callable Tryz.prog 175 := ⟨_, Tryz.func175, rfl, by kernel_rfl⟩
theorem flat20 : Flat Tryz.prog 20 := ⟨_, Tryz.underlying20, by simp⟩
theorem flat72 : Flat Tryz.prog 72 := ⟨_, Tryz.underlying72, by simp⟩
theorem flat200 : Flat Tryz.prog 200 := ⟨_, Tryz.underlying200, by simp⟩
theorem flat206 : Flat Tryz.prog 206 := ⟨_, Tryz.underlying206, by simp⟩
theorem flat212 : Flat Tryz.prog 212 := ⟨_, Tryz.underlying212, by simp⟩
theorem flat218 : Flat Tryz.prog 218 := ⟨_, Tryz.underlying218, by simp⟩
theorem flat224 : Flat Tryz.prog 224 := ⟨_, Tryz.underlying224, by simp⟩
theorem ty20 : Ty Tryz.prog 20 .nilIface 1 16 := ty_of (by kernel_rfl)
theorem ty59 : Ty Tryz.prog 59 (.agg #[(.map none)]) 1 8 := ty_of (by kernel_rfl)
theorem ty72 : Ty Tryz.prog 72 .nilFunc 1 8 := ty_of (by kernel_rfl)
theorem ty101 : Ty Tryz.prog 101 (.agg #[.nilIface]) 1 16 := ty_of (by kernel_rfl)
theorem ty103 : Ty Tryz.prog 103 .nilIface 1 16 := ty_of (by kernel_rfl)
theorem ty105 : Ty Tryz.prog 105 (.agg #[.nilIface]) 1 16 := ty_of (by kernel_rfl)
theorem ty124 : Ty Tryz.prog 124 (.agg #[.nilIface, .nilIface]) 2 32 := ty_of (by kernel_rfl)
theorem ty126 : Ty Tryz.prog 126 .nilIface 1 16 := ty_of (by kernel_rfl)
theorem ty127 : Ty Tryz.prog 127 (.agg #[.nilIface]) 1 16 := ty_of (by kernel_rfl)
theorem ty143 : Ty Tryz.prog 143 (.agg #[.nilIface]) 1 16 := ty_of (by kernel_rfl)
theorem ty145 : Ty Tryz.prog 145 .nilIface 1 16 := ty_of (by kernel_rfl)
theorem ty146 : Ty Tryz.prog 146 (.agg #[.nilIface]) 1 16 := ty_of (by kernel_rfl)
theorem ty161 : Ty Tryz.prog 161 (.agg #[.nilIface]) 1 16 := ty_of (by kernel_rfl)
theorem ty163 : Ty Tryz.prog 163 .nilIface 1 16 := ty_of (by kernel_rfl)
theorem ty164 : Ty Tryz.prog 164 (.agg #[.nilIface]) 1 16 := ty_of (by kernel_rfl)
theorem ty179 : Ty Tryz.prog 179 (.agg #[.nilIface]) 1 16 := ty_of (by kernel_rfl)
theorem ty181 : Ty Tryz.prog 181 .nilIface 1 16 := ty_of (by kernel_rfl)
theorem ty183 : Ty Tryz.prog 183 (.agg #[.nilIface, .nilIface]) 2 32 := ty_of (by kernel_rfl)
theorem ty200 : Ty Tryz.prog 200 (.pointer none) 1 8 := ty_of (by kernel_rfl)
theorem ty204 : Ty Tryz.prog 204 (.agg #[.nilIface, .nilIface]) 2 32 := ty_of (by kernel_rfl)
theorem ty206 : Ty Tryz.prog 206 (.pointer none) 1 8 := ty_of (by kernel_rfl)
theorem ty210 : Ty Tryz.prog 210 (.agg #[.nilIface, .nilIface]) 2 32 := ty_of (by kernel_rfl)
theorem ty212 : Ty Tryz.prog 212 (.pointer none) 1 8 := ty_of (by kernel_rfl)
theorem ty216 : Ty Tryz.prog 216 (.agg #[.nilIface, .nilIface]) 2 32 := ty_of (by kernel_rfl)
theorem ty218 : Ty Tryz.prog 218 (.pointer none) 1 8 := ty_of (by kernel_rfl)
theorem ty222 : Ty Tryz.prog 222 (.agg #[.nilIface, .nilIface]) 2 32 := ty_of (by kernel_rfl)
theorem ty224 : Ty Tryz.prog 224 (.pointer none) 1 8 := ty_of (by kernel_rfl)
theorem ty228 : Ty Tryz.prog 228 (.agg #[.nilIface, .nilIface]) 2 32 := ty_of (by kernel_rfl)
theorem ty273 : Ty Tryz.prog 273 (.agg #[.nilIface]) 1 16 := ty_of (by kernel_rfl)
theorem ty275 : Ty Tryz.prog 275 (.agg #[.nilIface]) 1 16 := ty_of (by kernel_rfl)
theorem ty277 : Ty Tryz.prog 277 (.agg #[.nilIface]) 1 16 := ty_of (by kernel_rfl)
theorem ty279 : Ty Tryz.prog 279 (.agg #[.nilIface]) 1 16 := ty_of (by kernel_rfl)
theorem ty281 : Ty Tryz.prog 281 (.agg #[.nilIface]) 1 16 := ty_of (by kernel_rfl)
theorem conc271 : Conc Tryz.prog 271 := ⟨_, Tryz.underlying271, by simp⟩
theorem conc274 : Conc Tryz.prog 274 := ⟨_, Tryz.underlying274, by simp⟩
theorem conc276 : Conc Tryz.prog 276 := ⟨_, Tryz.underlying276, by simp⟩
theorem conc278 : Conc Tryz.prog 278 := ⟨_, Tryz.underlying278, by simp⟩
theorem conc280 : Conc Tryz.prog 280 := ⟨_, Tryz.underlying280, by simp⟩
theorem agg59 : Agg Tryz.prog 59 := agg_of Tryz.underlying59
theorem agg101 : Agg Tryz.prog 101 := agg_of Tryz.underlying101
theorem agg124 : Agg Tryz.prog 124 := agg_of Tryz.underlying124
theorem agg143 : Agg Tryz.prog 143 := agg_of Tryz.underlying143
theorem agg161 : Agg Tryz.prog 161 := agg_of Tryz.underlying161
theorem agg179 : Agg Tryz.prog 179 := agg_of Tryz.underlying179
theorem agg204 : Agg Tryz.prog 204 := agg_of Tryz.underlying204
theorem agg210 : Agg Tryz.prog 210 := agg_of Tryz.underlying210
theorem agg216 : Agg Tryz.prog 216 := agg_of Tryz.underlying216
theorem agg222 : Agg Tryz.prog 222 := agg_of Tryz.underlying222
theorem agg228 : Agg Tryz.prog 228 := agg_of Tryz.underlying228
theorem agg273 : Agg Tryz.prog 273 := agg_of Tryz.underlying273
theorem agg275 : Agg Tryz.prog 275 := agg_of Tryz.underlying275
theorem agg277 : Agg Tryz.prog 277 := agg_of Tryz.underlying277
theorem agg279 : Agg Tryz.prog 279 := agg_of Tryz.underlying279
theorem agg281 : Agg Tryz.prog 281 := agg_of Tryz.underlying281
theorem str101 : Str Tryz.prog 101 #[(0, 1)] := ⟨_, Tryz.underlying101, fun w => by kernel_rfl⟩
theorem str124 : Str Tryz.prog 124 #[(0, 1), (1, 1)] := ⟨_, Tryz.underlying124, fun w => by kernel_rfl⟩
theorem str143 : Str Tryz.prog 143 #[(0, 1)] := ⟨_, Tryz.underlying143, fun w => by kernel_rfl⟩
theorem str161 : Str Tryz.prog 161 #[(0, 1)] := ⟨_, Tryz.underlying161, fun w => by kernel_rfl⟩
theorem str179 : Str Tryz.prog 179 #[(0, 1)] := ⟨_, Tryz.underlying179, fun w => by kernel_rfl⟩
theorem str273 : Str Tryz.prog 273 #[(0, 1)] := ⟨_, Tryz.underlying273, fun w => by kernel_rfl⟩
theorem str275 : Str Tryz.prog 275 #[(0, 1)] := ⟨_, Tryz.underlying275, fun w => by kernel_rfl⟩
theorem str277 : Str Tryz.prog 277 #[(0, 1)] := ⟨_, Tryz.underlying277, fun w => by kernel_rfl⟩
theorem str279 : Str Tryz.prog 279 #[(0, 1)] := ⟨_, Tryz.underlying279, fun w => by kernel_rfl⟩
theorem str281 : Str Tryz.prog 281 #[(0, 1)] := ⟨_, Tryz.underlying281, fun w => by kernel_rfl⟩
theorem fld105_0 : Fld Tryz.prog 105 0 0 20 := fld_of Tryz.underlying105 rfl rfl rfl ty20 (by decide)
theorem fld127_0 : Fld Tryz.prog 127 0 0 20 := fld_of Tryz.underlying127 rfl rfl rfl ty20 (by decide)
theorem fld146_0 : Fld Tryz.prog 146 0 0 20 := fld_of Tryz.underlying146 rfl rfl rfl ty20 (by decide)
theorem fld164_0 : Fld Tryz.prog 164 0 0 20 := fld_of Tryz.underlying164 rfl rfl rfl ty20 (by decide)
theorem fld183_1 : Fld Tryz.prog 183 1 1 20 := fld_of Tryz.underlying183 rfl rfl rfl ty20 (by decide)
theorem fld202_0 : Fld Tryz.prog 202 0 0 200 := fld_of Tryz.underlying202 rfl rfl rfl ty200 (by decide)
theorem fld202_1 : Fld Tryz.prog 202 1 1 200 := fld_of Tryz.underlying202 rfl rfl rfl ty200 (by decide)
theorem fld204_0 : Fld Tryz.prog 204 0 0 103 := fld_of Tryz.underlying204 rfl rfl rfl ty103 (by decide)
theorem fld208_0 : Fld Tryz.prog 208 0 0 206 := fld_of Tryz.underlying208 rfl rfl rfl ty206 (by decide)
theorem fld208_1 : Fld Tryz.prog 208 1 1 206 := fld_of Tryz.underlying208 rfl rfl rfl ty206 (by decide)
theorem fld208_2 : Fld Tryz.prog 208 2 2 72 := fld_of Tryz.underlying208 rfl rfl rfl ty72 (by decide)
theorem fld210_0 : Fld Tryz.prog 210 0 0 126 := fld_of Tryz.underlying210 rfl rfl rfl ty126 (by decide)
theorem fld214_0 : Fld Tryz.prog 214 0 0 212 := fld_of Tryz.underlying214 rfl rfl rfl ty212 (by decide)
theorem fld214_1 : Fld Tryz.prog 214 1 1 212 := fld_of Tryz.underlying214 rfl rfl rfl ty212 (by decide)
theorem fld216_0 : Fld Tryz.prog 216 0 0 145 := fld_of Tryz.underlying216 rfl rfl rfl ty145 (by decide)
theorem fld220_0 : Fld Tryz.prog 220 0 0 218 := fld_of Tryz.underlying220 rfl rfl rfl ty218 (by decide)
theorem fld220_1 : Fld Tryz.prog 220 1 1 218 := fld_of Tryz.underlying220 rfl rfl rfl ty218 (by decide)
theorem fld222_0 : Fld Tryz.prog 222 0 0 163 := fld_of Tryz.underlying222 rfl rfl rfl ty163 (by decide)
theorem fld226_0 : Fld Tryz.prog 226 0 0 224 := fld_of Tryz.underlying226 rfl rfl rfl ty224 (by decide)
theorem fld226_1 : Fld Tryz.prog 226 1 1 224 := fld_of Tryz.underlying226 rfl rfl rfl ty224 (by decide)
theorem fld228_0 : Fld Tryz.prog 228 0 0 181 := fld_of Tryz.underlying228 rfl rfl rfl ty181 (by decide)
theorem ch_fresh {PD tD MF : TypeId} {base : Nat} {l : List Nd} {e : Value} (h : ∀ z ∈ l, base ≤ z.b) : ∀ b o, (b, o) ∈ ch PD tD MF l e → base ≤ b := by
 intro b o hb
 have hm := List.mem_map_of_mem (f := Prod.fst) hb
 rw [ch_ids] at hm
 obtain ⟨x, hx, rfl⟩ := List.mem_map.1 hm
 exact h x hx
open Classical in
theorem regY {s y a w o Y c : Hp} {H : List Hp} (h : (a ++ y).Perm c) : (s :: y :: a :: w :: o :: Y :: H).flatten.Perm ((s ++ (c ++ (w ++ (o ++ Y)))) :: H).flatten := by
 refine List.perm_iff_count.2 fun z => ?_
 have := List.perm_iff_count.1 h z
 simp only [List.flatten_cons, List.count_append] at this ⊢
 omega
open Classical in
theorem regI {s y a Y c1 c2 c3 c4 : Hp} : ([c1, c2, c3, c4, (s ++ (a ++ y)) ++ Y] : List Hp).flatten.Perm ([c1, c2, c3, c4, s, y, a, Y] : List Hp).flatten := by
 refine List.perm_iff_count.2 fun z => ?_
 simp only [List.flatten_cons, List.flatten_nil, List.count_append]
 omega
theorem nr0  : Fn0 Tryz.prog 28 [] (.nilIface) := by
 refine Fn0.enter (n := 1) Tryz.func28 rfl rfl fun w0 => ?_
 refine WC.sub (fr' := []) ?_ trivial
 refine WC.seq (WC.region ?_)
 refine WL.q (oq_assign rfl) rfl rfl rfl ?_
 refine WL.nil (WE.then_normal (WC.sub (fr' := []) ?_ trivial))
 refine WC.seq (WC.region ?_)
 refine WL.q (oq_assign rfl) rfl rfl rfl ?_
 refine WL.nil (WE.then_normal (WC.sub (fr' := [(0, _)]) ?_ ⟨rfl, trivial⟩))
 refine WC.ret ?_
 refine WE.end0 (.inl rfl) (res1 Tryz.results28 rfl) ?_
 rfl
theorem invP_dec0 : InvP2 Tryz.prog 200 204 "HandleInitialize" 149 := invp2_of (mrow_of Tryz.underlying200 call149 (by kernel_rfl))
theorem invP_wr0 : InvP2 Tryz.prog 271 273 "HandleInitialize" 167 := invp2_of (mrow_of Tryz.underlying271 call167 (by kernel_rfl))
theorem node0 {base : Nat} {K : KE} {X Y : Hp} {b3 : Nat} {x : Nd} {h : Value} {ids : List (List UInt8)} (hX3 : (b3, Obj.cells #[Pt K.cb 0] 54 (0, 0)) ∈ X) (hx : Okn 0 b3 X x) (hi : x.id.length ≤ 100000) (hY : ∀ b o, (b, o) ∈ Y → base ≤ b) (hd : HD base K "HandleInitialize" (.agg #[.nilIface]) X Y h (.agg #[.nilIface]) ids) :
  HC base K 149 [.agg #[h, wv 231 x], CTX, .agg #[.nilIface]] X Y (.agg #[.nilIface]) (x.id :: ids) := by
 obtain ⟨q, hq, hXq⟩ := hx
 unfold wv
 rw [hq]
 exact dech0 base K X Y b3 q x.id _ h hY (mfh0 base K X Y b3 q x.id _ h hY (inner0 base K b3 q x.id ids X Y h hi hX3 hXq hY hd))
theorem chain0 {base : Nat} {K : KE} {X Y : Hp} {b3 : Nat} {e : Value} {ids : List (List UInt8)} (hX3 : (b3, Obj.cells #[Pt K.cb 0] 54 (0, 0)) ∈ X) (hY : ∀ b o, (b, o) ∈ Y → base ≤ b) (hd : HD base K "HandleInitialize" (.agg #[.nilIface]) X Y e (.agg #[.nilIface]) ids) :
  ∀ (r : List Nd), (∀ x ∈ r, Okn 0 b3 X x ∧ x.id.length ≤ 100000) → (∀ z, z ∈ ch 200 204 231 r e → z ∈ Y) → HD base K "HandleInitialize" (.agg #[.nilIface]) X Y (nextOf 200 r e) (.agg #[.nilIface]) (r.map Nd.id ++ ids)
 | [], _, _ => hd
 | x :: r, hr, hm => by
  obtain ⟨h1, h2⟩ := hr x List.mem_cons_self
  have ih := chain0 hX3 hY hd r (fun y hy => hr y (List.mem_cons_of_mem _ hy)) (fun z hz => hm z (List.mem_cons_of_mem _ hz))
  exact ⟨149, _, inv_of_p2 (cells := [nextOf 200 r e, wv 231 x]) invP_dec0 agg204 ty204 rfl (hm _ List.mem_cons_self), node0 hX3 h1 h2 hY ih⟩
theorem head0 {base : Nat} {K : KE} {X Y : Hp} {b3 : Nat} {e : Value} {ids : List (List UInt8)} (hX3 : (b3, Obj.cells #[Pt K.cb 0] 54 (0, 0)) ∈ X) (hY : ∀ b o, (b, o) ∈ Y → base ≤ b) (hd : HD base K "HandleInitialize" (.agg #[.nilIface]) X Y e (.agg #[.nilIface]) ids)
  (x : Nd) (r : List Nd) (hr : ∀ y ∈ x :: r, Okn 0 b3 X y ∧ y.id.length ≤ 100000) (hm : ∀ z, z ∈ ch 200 204 231 (x :: r) e → z ∈ Y) : HC base K 149 [.agg #[nextOf 200 r e, wv 231 x], CTX, .agg #[.nilIface]] X Y (.agg #[.nilIface]) (x.id :: (r.map Nd.id ++ ids)) :=
 node0 hX3 (hr x List.mem_cons_self).1 (hr x List.mem_cons_self).2 hY (chain0 hX3 hY hd r (fun y hy => hr y (List.mem_cons_of_mem _ hy)) (fun z hz => hm z (List.mem_cons_of_mem _ hz)))
theorem wrd0 {base : Nat} {K : KE} {X Y : Hp} {b : Nat} {h : Value} {ids : List (List UInt8)} (hY : ∀ b o, (b, o) ∈ Y → base ≤ b) (hd : HD base K "Handle" .nilIface X Y h .nilIface ids) (hb : (b, Obj.cells #[h] 273 (0, 0)) ∈ Y) : HD base K "HandleInitialize" (.agg #[.nilIface]) X Y (.iface 271 (Pt b 0)) (.agg #[.nilIface]) ids :=
 ⟨167, _, inv_of_p2 (cells := [h]) invP_wr0 agg273 ty273 rfl hb, wrh0 base K X Y ids h hY hd⟩
theorem step0_0 (base sb : Nat) (K : KE) (X Y : Hp) (ids : List (List UInt8)) (hk : TypeId) (hv : Value) (hY : ∀ b o, (b, o) ∈ Y → base ≤ b) (hd : HD base K "Handle" .nilIface X Y (.iface hk hv) .nilIface ids) (l : List (List UInt8)) (lv : Value) (L : Hp) (ho : OwL base lv L l) (hl : l.length + 2 * ids.length ≤ 100000) : FnW Tryz.prog 166 [Pt sb 0, CTX, .nilIface, .iface hk hv] base [CS K.cb lv K.stop K.fail, L, KB K.kb false, X, [(sb, .cells #[.pointer none, .pointer none] 202 (0, 0))], Y] (fun v Hs => ∃ lv2 L2 Y2 e2 s, Hs = [CS K.cb lv2 K.stop K.fail, L2, KB K.kb (Tr K.stop ids).2, X, s, Y2] ∧ v = .tuple #[.nilIface, META, e2] ∧ OwL base lv2 L2 (l ++ (Tr K.stop ids).1) ∧ (∀ b o, (b, o) ∈ Y2 → base ≤ b) ∧ ErrOk e2 (!(Tr K.stop ids).2) K.fail ∧ ∀ b o, (b, o) ∈ s → b = sb) := by
 refine FnW.enter (n := 66) Tryz.func166 rfl rfl fun w0 R0 hbase => ?_
 subst hbase
 show WC _ _ _ _ _ _ _ ([CS K.cb lv K.stop K.fail, L, KB K.kb false, X, [(sb, .cells #[.pointer none, .pointer none] 202 (0, 0))], Y, R0])
 refine WC.sub (fr' := [(0, _), (1, _), (2, _), (3, _)]) ?_ ⟨rfl, rfl, rfl, rfl, trivial⟩
 refine WC.seq (WC.region ?_)
 refine WL.q (oq_assign rfl) rfl rfl rfl ?_
 refine WL.alloc ty59 rfl rfl fun o9 ho9 => ?_
 refine WL.q (oq_assign rfl) rfl rfl rfl ?_
 refine WL.nil (WE.then_normal (WC.sub (fr' := [(0, _), (1, _), (2, _), (3, _), (9, _)]) ?_ ⟨rfl, rfl, rfl, rfl, rfl, trivial⟩))
 refine WC.seq (WC.region ?_)
 refine WL.q (oq_move rfl) rfl rfl rfl ?_
 refine WL.q (oq_build #[_] str101 ty101 rfl rfl) rfl rfl rfl ?_
 refine WL.alloc ty101 rfl rfl fun o11 ho11 => ?_
 refine WL.storeS #[_] ty101 rfl rfl rfl rfl (Nat.le_of_ble_eq_true rfl) rfl rfl ?_
 refine WL.nil (WE.then_normal (WC.sub (fr' := [(0, _), (1, _), (3, _), (9, _), (11, _)]) ?_ ⟨rfl, rfl, rfl, rfl, rfl, trivial⟩))
 refine WC.seq (WC.region ?_)
 refine WL.q (oq_move rfl) rfl rfl rfl ?_
 refine WL.q (oq_build #[_] str273 ty273 rfl rfl) rfl rfl rfl ?_
 refine WL.box rfl rfl rfl fun w hw => ?_
 refine WL.q (oq_assign rfl) rfl rfl rfl ?_
 refine WL.nil (WE.then_normal (WC.sub (fr' := [(0, _), (1, _), (9, _), (11, _), (12, _)]) ?_ ⟨rfl, rfl, rfl, rfl, rfl, trivial⟩))
 refine WC.seq (WC.seq (WC.region ?_))
 refine WL.q (oq_move rfl) rfl rfl rfl ?_
 refine WL.q (oq_nilCheck rfl) rfl rfl rfl ?_
 refine WL.q (oq_fieldAddr fld202_0 rfl) rfl rfl rfl ?_
 refine WL.q (oq_load flat200 rfl (.tail _ (.tail _ (.tail _ (.tail _ (.tail _ (.tail _ (.tail _ (.head _)))))))) (List.mem_singleton.2 rfl) rfl) rfl rfl rfl ?_
 refine WL.q (oq_peql Tryz.underlying200 rfl rfl) rfl rfl rfl ?_
 refine WL.nil (WE.then_normal (WC.sub (fr' := [(0, _), (1, _), (9, _), (11, _), (12, _), (26, _)]) ?_ ⟨rfl, rfl, rfl, rfl, rfl, rfl, trivial⟩))
 refine WC.cond rfl (fun q3 => ?_) (fun q3 => ?_)
 ·
  try simp only [Z1, Z2, Z3, Z4, Z5, Z6, Z7, Z8, Z9, Z0] at q3
  refine WC.cut (ι := Value × Hp × Hp × Value × Nat × Nat) (fun i_ => (fun (lv2 : Value) (L2 : Hp) (Y2 : Hp) (e2 : Value) (o13 : Nat) (o14 : Nat) => [(9, Pt o9 0), (13, Pt o13 0), (14, Pt o14 0), (15, e2)]) i_.1 i_.2.1 i_.2.2.1 i_.2.2.2.1 i_.2.2.2.2.1 i_.2.2.2.2.2) (fun i_ => (fun (lv2 : Value) (L2 : Hp) (Y2 : Hp) (e2 : Value) (o13 : Nat) (o14 : Nat) => [CS K.cb lv2 K.stop K.fail, L2, KB K.kb (Tr K.stop ids).2, X, Y2, [(sb, .cells #[.pointer none, .pointer none] 202 (0, 0))], [(o9, Obj.cells #[.map none] 59 (0, 0))], [(o13, Obj.cells #[.nilIface] 105 (0, 0))], [(o14, Obj.cells #[.map none] 59 (0, 0))], R0]) i_.1 i_.2.1 i_.2.2.1 i_.2.2.2.1 i_.2.2.2.2.1 i_.2.2.2.2.2) (fun i_ => (fun (lv2 : Value) (L2 : Hp) (Y2 : Hp) (e2 : Value) (o13 : Nat) (o14 : Nat) => OwL w0.heap.size lv2 L2 (l ++ (Tr K.stop ids).1) ∧ (∀ b o, (b, o) ∈ Y2 → w0.heap.size ≤ b) ∧ ErrOk e2 (!(Tr K.stop ids).2) K.fail ∧ w0.heap.size ≤ o13 ∧ w0.heap.size ≤ o14) i_.1 i_.2.1 i_.2.2.1 i_.2.2.2.1 i_.2.2.2.2.1 i_.2.2.2.2.2) ?_ ?_
  ·
   refine WC.f1 ?_
   refine WC.f1 ?_
   refine WC.cat ?_
   refine WC.gate 5 ([(w, Obj.cells #[.iface hk hv] 273 (0, 0))] ++ [(o11, Obj.cells #[.nilIface] 101 (0, 0))]) (by kernel_rfl) ?_
   refine WG.q 0 [2, 1] rfl (.head _) (fun w0 => oq_move rfl) rfl rfl rfl ?_
   refine WG.q 1 [2] rfl (.head _) (fun w0 => oq_nilCheck rfl) rfl rfl rfl ?_
   refine WG.q 2 [] rfl (.head _) (fun w0 => oq_loadS [_] agg273 ty273 rfl (.head _) (List.mem_append_left _ (List.mem_singleton.2 rfl)) rfl rfl) rfl rfl rfl ?_
   refine WG.q 3 [] rfl (.head _) (fun w0 => oq_move rfl) rfl rfl rfl ?_
   refine WG.q 4 [] rfl (.head _) (fun w0 => oq_loadS [_] agg101 ty101 rfl (.head _) (List.mem_append_right _ (List.mem_singleton.2 rfl)) rfl rfl) rfl rfl rfl ?_
   refine WG.fork3 (i := 5) (j := 10) (m := 11) (by kernel_rfl) rfl rfl rfl ?_ ?_ ?_
   ·
    refine WL.f7 ?_
    refine WL.f6 ?_
    refine WL.f6 ?_
    refine WL.f6 ?_
    refine WL.f6 ?_
    refine WL.callW5 (wrh0 _ K X Y ids _ hY hd l lv L ho hl) call167 rfl rfl rfl fun v4_5 Hs4_5 hR4_5 => ?_
    obtain ⟨lv2, L2, Y2, e2, rfl, rfl, ho2, hY2, he2⟩ := hR4_5
    refine WL.to5 ?_
    refine WL.nil ?_
    refine WE.toG0 (by kernel_rfl) ?_
    refine WG.p 6 rfl (.inl (by kernel_rfl)) (fun w0 => oq_move rfl) rfl rfl rfl ?_
    refine WG.p 7 rfl (.inl (by kernel_rfl)) (fun w0 => oq_extract rfl rfl) rfl rfl rfl ?_
    refine WG.p 8 rfl (.inl (by kernel_rfl)) (fun w0 => oq_extract rfl rfl) rfl rfl rfl ?_
    refine WG.p 9 rfl (.inl (by kernel_rfl)) (fun w0 => oq_extract rfl rfl) rfl rfl rfl ?_
    refine WG.fork2 (i := 10) (j := 11) (by kernel_rfl) rfl rfl ?_ ?_
    ·
     refine WL.alloc ty105 rfl rfl fun o13 ho13 => ?_
     refine WL.nil ?_
     refine WE.toG0 (by kernel_rfl) ?_
     refine WG.step (i := 11) (by kernel_rfl) rfl ?_
     refine WL.alloc ty59 rfl rfl fun o14 ho14 => ?_
     refine WL.nil ?_
     refine WE.toG0 (by kernel_rfl) ?_
     refine WG.step (i := 12) (by kernel_rfl) rfl ?_
     refine WL.f1 ?_
     refine WL.storeS #[_] ty105 rfl rfl rfl rfl (Nat.le_of_ble_eq_true rfl) rfl rfl ?_
     refine WL.nil ?_
     refine WE.toG0 (by kernel_rfl) ?_
     refine WG.step (i := 13) (by kernel_rfl) rfl ?_
     refine WL.f1 ?_
     refine WL.storeS #[_] ty59 rfl rfl rfl rfl (Nat.le_of_ble_eq_true rfl) rfl rfl ?_
     refine WL.nil ?_
     refine WE.toG0 (by kernel_rfl) ?_
     refine WG.p 14 rfl (.inl (by kernel_rfl)) (fun w0 => oq_assign rfl) rfl rfl rfl ?_
     refine WG.done (by kernel_rfl) ?_
     refine WE.f7 ?_
     refine WE.forget (fresh_cat (fresh1 hw) (fresh1 ho11)) ?_
     refine WE.f9 ?_
     refine WE.f1 ?_
     refine WE.f2 ?_
     refine WE.f8 ?_
     refine WE.f9 ?_
     refine WE.f9 ?_
     refine WE.f9 ?_
     refine WE.f9 ?_
     refine WE.f9 ?_
     refine WE.f9 ?_
     refine WE.meet (_, _, _, _, _, _) ?_ ⟨rfl, rfl, rfl, rfl, trivial⟩ (List.Perm.refl _)
     try dsimp only
     exact ⟨ho2, hY2, he2, ho13, ho14⟩
    ·
     refine WL.alloc ty59 rfl rfl fun o14 ho14 => ?_
     refine WL.nil ?_
     refine WE.toG0 (by kernel_rfl) ?_
     refine WG.step (i := 10) (by kernel_rfl) rfl ?_
     refine WL.alloc ty105 rfl rfl fun o13 ho13 => ?_
     refine WL.nil ?_
     refine WE.toG0 (by kernel_rfl) ?_
     refine WG.step (i := 12) (by kernel_rfl) rfl ?_
     refine WL.storeS #[_] ty105 rfl rfl rfl rfl (Nat.le_of_ble_eq_true rfl) rfl rfl ?_
     refine WL.nil ?_
     refine WE.toG0 (by kernel_rfl) ?_
     refine WG.step (i := 13) (by kernel_rfl) rfl ?_
     refine WL.f1 ?_
     refine WL.storeS #[_] ty59 rfl rfl rfl rfl (Nat.le_of_ble_eq_true rfl) rfl rfl ?_
     refine WL.nil ?_
     refine WE.toG0 (by kernel_rfl) ?_
     refine WG.p 14 rfl (.inl (by kernel_rfl)) (fun w0 => oq_assign rfl) rfl rfl rfl ?_
     refine WG.done (by kernel_rfl) ?_
     refine WE.f7 ?_
     refine WE.forget (fresh_cat (fresh1 hw) (fresh1 ho11)) ?_
     refine WE.f9 ?_
     refine WE.f1 ?_
     refine WE.f2 ?_
     refine WE.f8 ?_
     refine WE.f9 ?_
     refine WE.f9 ?_
     refine WE.f9 ?_
     refine WE.f9 ?_
     refine WE.f9 ?_
     refine WE.f9 ?_
     refine WE.meet (_, _, _, _, _, _) ?_ ⟨rfl, rfl, rfl, rfl, trivial⟩ (List.Perm.refl _)
     try dsimp only
     exact ⟨ho2, hY2, he2, ho13, ho14⟩
   ·
    refine WL.alloc ty105 rfl rfl fun o13 ho13 => ?_
    refine WL.nil ?_
    refine WE.toG (.tail _ (.head _)) ?_
    refine WG.fork2 (i := 5) (j := 11) (by kernel_rfl) rfl rfl ?_ ?_
    ·
     refine WL.f8 ?_
     refine WL.f7 ?_
     refine WL.f7 ?_
     refine WL.f7 ?_
     refine WL.f7 ?_
     refine WL.callW5 (wrh0 _ K X Y ids _ hY hd l lv L ho hl) call167 rfl rfl rfl fun v4_5 Hs4_5 hR4_5 => ?_
     obtain ⟨lv2, L2, Y2, e2, rfl, rfl, ho2, hY2, he2⟩ := hR4_5
     refine WL.to5 ?_
     refine WL.nil ?_
     refine WE.toG0 (by kernel_rfl) ?_
     refine WG.p 6 rfl (.inl (by kernel_rfl)) (fun w0 => oq_move rfl) rfl rfl rfl ?_
     refine WG.p 7 rfl (.inl (by kernel_rfl)) (fun w0 => oq_extract rfl rfl) rfl rfl rfl ?_
     refine WG.p 8 rfl (.inl (by kernel_rfl)) (fun w0 => oq_extract rfl rfl) rfl rfl rfl ?_
     refine WG.p 9 rfl (.inl (by kernel_rfl)) (fun w0 => oq_extract rfl rfl) rfl rfl rfl ?_
     refine WG.step (i := 11) (by kernel_rfl) rfl ?_
     refine WL.alloc ty59 rfl rfl fun o14 ho14 => ?_
     refine WL.nil ?_
     refine WE.toG0 (by kernel_rfl) ?_
     refine WG.step (i := 12) (by kernel_rfl) rfl ?_
     refine WL.f6 ?_
     refine WL.storeS #[_] ty105 rfl rfl rfl rfl (Nat.le_of_ble_eq_true rfl) rfl rfl ?_
     refine WL.nil ?_
     refine WE.toG0 (by kernel_rfl) ?_
     refine WG.step (i := 13) (by kernel_rfl) rfl ?_
     refine WL.f1 ?_
     refine WL.storeS #[_] ty59 rfl rfl rfl rfl (Nat.le_of_ble_eq_true rfl) rfl rfl ?_
     refine WL.nil ?_
     refine WE.toG0 (by kernel_rfl) ?_
     refine WG.p 14 rfl (.inl (by kernel_rfl)) (fun w0 => oq_assign rfl) rfl rfl rfl ?_
     refine WG.done (by kernel_rfl) ?_
     refine WE.f7 ?_
     refine WE.forget (fresh_cat (fresh1 hw) (fresh1 ho11)) ?_
     refine WE.f9 ?_
     refine WE.f1 ?_
     refine WE.f2 ?_
     refine WE.f8 ?_
     refine WE.f9 ?_
     refine WE.f9 ?_
     refine WE.f9 ?_
     refine WE.f9 ?_
     refine WE.f9 ?_
     refine WE.f9 ?_
     refine WE.meet (_, _, _, _, _, _) ?_ ⟨rfl, rfl, rfl, rfl, trivial⟩ (List.Perm.refl _)
     try dsimp only
     exact ⟨ho2, hY2, he2, ho13, ho14⟩
    ·
     refine WL.alloc ty59 rfl rfl fun o14 ho14 => ?_
     refine WL.nil ?_
     refine WE.toG (.tail _ (.tail _ (.head _))) ?_
     refine WG.step (i := 5) (by kernel_rfl) rfl ?_
     refine WL.f9 ?_
     refine WL.f8 ?_
     refine WL.f8 ?_
     refine WL.f8 ?_
     refine WL.f8 ?_
     refine WL.callW5 (wrh0 _ K X Y ids _ hY hd l lv L ho hl) call167 rfl rfl rfl fun v4_5 Hs4_5 hR4_5 => ?_
     obtain ⟨lv2, L2, Y2, e2, rfl, rfl, ho2, hY2, he2⟩ := hR4_5
     refine WL.to5 ?_
     refine WL.nil ?_
     refine WE.toG0 (by kernel_rfl) ?_
     refine WG.p 6 rfl (.inl (by kernel_rfl)) (fun w0 => oq_move rfl) rfl rfl rfl ?_
     refine WG.p 7 rfl (.inl (by kernel_rfl)) (fun w0 => oq_extract rfl rfl) rfl rfl rfl ?_
     refine WG.p 8 rfl (.inl (by kernel_rfl)) (fun w0 => oq_extract rfl rfl) rfl rfl rfl ?_
     refine WG.p 9 rfl (.inl (by kernel_rfl)) (fun w0 => oq_extract rfl rfl) rfl rfl rfl ?_
     refine WG.step (i := 12) (by kernel_rfl) rfl ?_
     refine WL.f6 ?_
     refine WL.storeS #[_] ty105 rfl rfl rfl rfl (Nat.le_of_ble_eq_true rfl) rfl rfl ?_
     refine WL.nil ?_
     refine WE.toG0 (by kernel_rfl) ?_
     refine WG.step (i := 13) (by kernel_rfl) rfl ?_
     refine WL.f6 ?_
     refine WL.storeS #[_] ty59 rfl rfl rfl rfl (Nat.le_of_ble_eq_true rfl) rfl rfl ?_
     refine WL.nil ?_
     refine WE.toG0 (by kernel_rfl) ?_
     refine WG.p 14 rfl (.inl (by kernel_rfl)) (fun w0 => oq_assign rfl) rfl rfl rfl ?_
     refine WG.done (by kernel_rfl) ?_
     refine WE.f7 ?_
     refine WE.forget (fresh_cat (fresh1 hw) (fresh1 ho11)) ?_
     refine WE.f9 ?_
     refine WE.f1 ?_
     refine WE.f2 ?_
     refine WE.f8 ?_
     refine WE.f9 ?_
     refine WE.f9 ?_
     refine WE.f9 ?_
     refine WE.f9 ?_
     refine WE.f9 ?_
     refine WE.f9 ?_
     refine WE.meet (_, _, _, _, _, _) ?_ ⟨rfl, rfl, rfl, rfl, trivial⟩ (List.Perm.refl _)
     try dsimp only
     exact ⟨ho2, hY2, he2, ho13, ho14⟩
   ·
    refine WL.alloc ty59 rfl rfl fun o14 ho14 => ?_
    refine WL.nil ?_
    refine WE.toG (.tail _ (.head _)) ?_
    refine WG.fork2 (i := 5) (j := 10) (by kernel_rfl) rfl rfl ?_ ?_
    ·
     refine WL.f8 ?_
     refine WL.f7 ?_
     refine WL.f7 ?_
     refine WL.f7 ?_
     refine WL.f7 ?_
     refine WL.callW5 (wrh0 _ K X Y ids _ hY hd l lv L ho hl) call167 rfl rfl rfl fun v4_5 Hs4_5 hR4_5 => ?_
     obtain ⟨lv2, L2, Y2, e2, rfl, rfl, ho2, hY2, he2⟩ := hR4_5
     refine WL.to5 ?_
     refine WL.nil ?_
     refine WE.toG0 (by kernel_rfl) ?_
     refine WG.p 6 rfl (.inl (by kernel_rfl)) (fun w0 => oq_move rfl) rfl rfl rfl ?_
     refine WG.p 7 rfl (.inl (by kernel_rfl)) (fun w0 => oq_extract rfl rfl) rfl rfl rfl ?_
     refine WG.p 8 rfl (.inl (by kernel_rfl)) (fun w0 => oq_extract rfl rfl) rfl rfl rfl ?_
     refine WG.p 9 rfl (.inl (by kernel_rfl)) (fun w0 => oq_extract rfl rfl) rfl rfl rfl ?_
     refine WG.step (i := 10) (by kernel_rfl) rfl ?_
     refine WL.alloc ty105 rfl rfl fun o13 ho13 => ?_
     refine WL.nil ?_
     refine WE.toG0 (by kernel_rfl) ?_
     refine WG.step (i := 12) (by kernel_rfl) rfl ?_
     refine WL.storeS #[_] ty105 rfl rfl rfl rfl (Nat.le_of_ble_eq_true rfl) rfl rfl ?_
     refine WL.nil ?_
     refine WE.toG0 (by kernel_rfl) ?_
     refine WG.step (i := 13) (by kernel_rfl) rfl ?_
     refine WL.f6 ?_
     refine WL.storeS #[_] ty59 rfl rfl rfl rfl (Nat.le_of_ble_eq_true rfl) rfl rfl ?_
     refine WL.nil ?_
     refine WE.toG0 (by kernel_rfl) ?_
     refine WG.p 14 rfl (.inl (by kernel_rfl)) (fun w0 => oq_assign rfl) rfl rfl rfl ?_
     refine WG.done (by kernel_rfl) ?_
     refine WE.f7 ?_
     refine WE.forget (fresh_cat (fresh1 hw) (fresh1 ho11)) ?_
     refine WE.f9 ?_
     refine WE.f1 ?_
     refine WE.f2 ?_
     refine WE.f8 ?_
     refine WE.f9 ?_
     refine WE.f9 ?_
     refine WE.f9 ?_
     refine WE.f9 ?_
     refine WE.f9 ?_
     refine WE.f9 ?_
     refine WE.meet (_, _, _, _, _, _) ?_ ⟨rfl, rfl, rfl, rfl, trivial⟩ (List.Perm.refl _)
     try dsimp only
     exact ⟨ho2, hY2, he2, ho13, ho14⟩
    ·
     refine WL.alloc ty105 rfl rfl fun o13 ho13 => ?_
     refine WL.nil ?_
     refine WE.toG (.tail _ (.tail _ (.head _))) ?_
     refine WG.step (i := 5) (by kernel_rfl) rfl ?_
     refine WL.f9 ?_
     refine WL.f8 ?_
     refine WL.f8 ?_
     refine WL.f8 ?_
     refine WL.f8 ?_
     refine WL.callW5 (wrh0 _ K X Y ids _ hY hd l lv L ho hl) call167 rfl rfl rfl fun v4_5 Hs4_5 hR4_5 => ?_
     obtain ⟨lv2, L2, Y2, e2, rfl, rfl, ho2, hY2, he2⟩ := hR4_5
     refine WL.to5 ?_
     refine WL.nil ?_
     refine WE.toG0 (by kernel_rfl) ?_
     refine WG.p 6 rfl (.inl (by kernel_rfl)) (fun w0 => oq_move rfl) rfl rfl rfl ?_
     refine WG.p 7 rfl (.inl (by kernel_rfl)) (fun w0 => oq_extract rfl rfl) rfl rfl rfl ?_
     refine WG.p 8 rfl (.inl (by kernel_rfl)) (fun w0 => oq_extract rfl rfl) rfl rfl rfl ?_
     refine WG.p 9 rfl (.inl (by kernel_rfl)) (fun w0 => oq_extract rfl rfl) rfl rfl rfl ?_
     refine WG.step (i := 12) (by kernel_rfl) rfl ?_
     refine WL.f5 ?_
     refine WL.storeS #[_] ty105 rfl rfl rfl rfl (Nat.le_of_ble_eq_true rfl) rfl rfl ?_
     refine WL.nil ?_
     refine WE.toG0 (by kernel_rfl) ?_
     refine WG.step (i := 13) (by kernel_rfl) rfl ?_
     refine WL.f6 ?_
     refine WL.storeS #[_] ty59 rfl rfl rfl rfl (Nat.le_of_ble_eq_true rfl) rfl rfl ?_
     refine WL.nil ?_
     refine WE.toG0 (by kernel_rfl) ?_
     refine WG.p 14 rfl (.inl (by kernel_rfl)) (fun w0 => oq_assign rfl) rfl rfl rfl ?_
     refine WG.done (by kernel_rfl) ?_
     refine WE.f7 ?_
     refine WE.forget (fresh_cat (fresh1 hw) (fresh1 ho11)) ?_
     refine WE.f9 ?_
     refine WE.f1 ?_
     refine WE.f2 ?_
     refine WE.f8 ?_
     refine WE.f9 ?_
     refine WE.f9 ?_
     refine WE.f9 ?_
     refine WE.f9 ?_
     refine WE.f9 ?_
     refine WE.f9 ?_
     refine WE.meet (_, _, _, _, _, _) ?_ ⟨rfl, rfl, rfl, rfl, trivial⟩ (List.Perm.refl _)
     try dsimp only
     exact ⟨ho2, hY2, he2, ho13, ho14⟩
  ·rintro ⟨lv2, L2, Y2, e2, o13, o14⟩ hp
   try dsimp only at hp
   obtain ⟨ho2, hY2, he2, ho13, ho14⟩ := hp
   show WC _ _ _ _ _ _ ([(9, Pt o9 0), (13, Pt o13 0), (14, Pt o14 0), (15, e2)]) ([CS K.cb lv2 K.stop K.fail, L2, KB K.kb (Tr K.stop ids).2, X, Y2, [(sb, .cells #[.pointer none, .pointer none] 202 (0, 0))], [(o9, Obj.cells #[.map none] 59 (0, 0))], [(o13, Obj.cells #[.nilIface] 105 (0, 0))], [(o14, Obj.cells #[.map none] 59 (0, 0))], R0])
   refine WC.seq ?_
   refine WC.f8 ?_
   refine WC.f8 ?_
   refine WC.cat ?_
   refine WC.gate 5 (([(o13, Obj.cells #[.nilIface] 105 (0, 0))] ++ [(o14, Obj.cells #[.map none] 59 (0, 0))])) (by kernel_rfl) ?_
   refine WG.q 0 [] rfl (.head _) (fun w0 => oq_fieldAddr fld105_0 rfl) rfl rfl rfl ?_
   refine WG.q 1 [] rfl (.head _) (fun w0 => oq_load flat20 rfl (.head _) (List.mem_append_left _ (List.mem_singleton.2 rfl)) rfl) rfl rfl rfl ?_
   refine WG.q 2 [] rfl (.head _) (fun w0 => oq_loadS [_] agg59 ty59 rfl (.head _) (List.mem_append_right _ (List.mem_singleton.2 rfl)) rfl rfl) rfl rfl rfl ?_
   refine WG.p 3 rfl (.inr (.head _)) (fun w0 => oq_move rfl) rfl rfl rfl ?_
   refine WG.q 4 [] rfl (.head _) (fun w0 => oq_assign rfl) rfl rfl rfl ?_
   refine WG.step (i := 5) (by kernel_rfl) rfl ?_
   refine WL.f7 ?_
   refine WL.storeS #[_] ty59 rfl rfl rfl rfl (Nat.le_of_ble_eq_true rfl) rfl rfl ?_
   refine WL.nil ?_
   refine WE.toG0 (by kernel_rfl) ?_
   refine WG.p 6 rfl (.inl (by kernel_rfl)) (fun w0 => oq_assign rfl) rfl rfl rfl ?_
   refine WG.done (by kernel_rfl) ?_
   refine WE.then_normal (WC.sub (fr' := [(8, _), (9, _), (10, _)]) ?_ ⟨rfl, rfl, rfl, trivial⟩)
   refine WC.ret (WE.then_ret ?_)
   refine WE.endDW [_, _, _, _, _, _] (.inl rfl) (rs3 Tryz.results166 (rv_tmp rfl) (rv_cellS [_] agg59 ty59 rfl (.head _) (List.mem_singleton.2 rfl) rfl rfl) (rv_tmp rfl)) (dr_lose ho9 (dr_forget (fresh_cat (fresh1 ho13) (fresh1 ho14)) (dr_f6 (dr_f5 (dr_f6 (dr_f6 (dr_f6 (dr_f6 (dr_f6 dr_refl))))))))) ?_
   exact ⟨_, _, _, _, _, rfl, rfl, ho2, hY2, he2, fun b o h => by simp only [List.mem_singleton] at h; injection h⟩
 ·
  try simp only [Z1, Z2, Z3, Z4, Z5, Z6, Z7, Z8, Z9, Z0] at q3
  simp at q3
theorem stepC_0 (base sb b3 : Nat) (K : KE) (X Y : Hp) (ids : List (List UInt8)) (hk : TypeId) (hv : Value) (hY : ∀ b o, (b, o) ∈ Y → base ≤ b) (hd : HD base K "Handle" .nilIface X Y (.iface hk hv) .nilIface ids) (x y : Nd) (r A1 : List Nd) (h : x :: r = A1 ++ [y]) (hX3 : (b3, Obj.cells #[Pt K.cb 0] 54 (0, 0)) ∈ X) (hr : ∀ z ∈ x :: r, Okn 0 b3 X z ∧ z.id.length ≤ 100000) (hfr : ∀ z ∈ x :: r, base ≤ z.b) (hsb : base ≤ sb) (l : List (List UInt8)) (lv : Value) (L : Hp) (ho : OwL base lv L l) (hl : l.length + 2 * (x.id :: (r.map Nd.id ++ ids)).length ≤ 100000) : FnW Tryz.prog 166 [Pt sb 0, CTX, .nilIface, .iface hk hv] base [CS K.cb lv K.stop K.fail, L, KB K.kb false, X, [(sb, .cells #[Pt x.b 0, Pt y.b 0] 202 (0, 0))], [(y.b, Obj.cells #[.nilIface, wv 231 y] 204 (0, 0))], ch 200 204 231 A1 (.iface 200 (Pt y.b 0)), Y] (CR base K X l (x.id :: (r.map Nd.id ++ ids)) .nilIface) := by
 refine FnW.enter (n := 66) Tryz.func166 rfl rfl fun w0 R0 hbase => ?_
 subst hbase
 show WC _ _ _ _ _ _ _ ([CS K.cb lv K.stop K.fail, L, KB K.kb false, X, [(sb, .cells #[Pt x.b 0, Pt y.b 0] 202 (0, 0))], [(y.b, Obj.cells #[.nilIface, wv 231 y] 204 (0, 0))], ch 200 204 231 A1 (.iface 200 (Pt y.b 0)), Y, R0])
 refine WC.sub (fr' := [(0, _), (1, _), (2, _), (3, _)]) ?_ ⟨rfl, rfl, rfl, rfl, trivial⟩
 refine WC.seq (WC.region ?_)
 refine WL.q (oq_assign rfl) rfl rfl rfl ?_
 refine WL.alloc ty59 rfl rfl fun o9 ho9 => ?_
 refine WL.q (oq_assign rfl) rfl rfl rfl ?_
 refine WL.nil (WE.then_normal (WC.sub (fr' := [(0, _), (1, _), (2, _), (3, _), (9, _)]) ?_ ⟨rfl, rfl, rfl, rfl, rfl, trivial⟩))
 refine WC.seq (WC.region ?_)
 refine WL.q (oq_move rfl) rfl rfl rfl ?_
 refine WL.q (oq_build #[_] str101 ty101 rfl rfl) rfl rfl rfl ?_
 refine WL.alloc ty101 rfl rfl fun o11 ho11 => ?_
 refine WL.storeS #[_] ty101 rfl rfl rfl rfl (Nat.le_of_ble_eq_true rfl) rfl rfl ?_
 refine WL.nil (WE.then_normal (WC.sub (fr' := [(0, _), (1, _), (3, _), (9, _), (11, _)]) ?_ ⟨rfl, rfl, rfl, rfl, rfl, trivial⟩))
 refine WC.seq (WC.region ?_)
 refine WL.q (oq_move rfl) rfl rfl rfl ?_
 refine WL.q (oq_build #[_] str273 ty273 rfl rfl) rfl rfl rfl ?_
 refine WL.box rfl rfl rfl fun w hw => ?_
 refine WL.q (oq_assign rfl) rfl rfl rfl ?_
 refine WL.nil (WE.then_normal (WC.sub (fr' := [(0, _), (1, _), (9, _), (11, _), (12, _)]) ?_ ⟨rfl, rfl, rfl, rfl, rfl, trivial⟩))
 refine WC.seq (WC.seq (WC.region ?_))
 refine WL.q (oq_move rfl) rfl rfl rfl ?_
 refine WL.q (oq_nilCheck rfl) rfl rfl rfl ?_
 refine WL.q (oq_fieldAddr fld202_0 rfl) rfl rfl rfl ?_
 refine WL.q (oq_load flat200 rfl (.tail _ (.tail _ (.tail _ (.tail _ (.tail _ (.tail _ (.tail _ (.head _)))))))) (List.mem_singleton.2 rfl) rfl) rfl rfl rfl ?_
 refine WL.q (oq_peql Tryz.underlying200 rfl rfl) rfl rfl rfl ?_
 refine WL.nil (WE.then_normal (WC.sub (fr' := [(0, _), (1, _), (9, _), (11, _), (12, _), (26, _)]) ?_ ⟨rfl, rfl, rfl, rfl, rfl, rfl, trivial⟩))
 refine WC.cond rfl (fun q3 => ?_) (fun q3 => ?_)
 ·
  try simp only [Z1, Z2, Z3, Z4, Z5, Z6, Z7, Z8, Z9, Z0] at q3
  simp at q3
 ·
  try simp only [Z1, Z2, Z3, Z4, Z5, Z6, Z7, Z8, Z9, Z0] at q3
  refine WC.skip (WE.then_normal (WC.sub (fr' := [(0, _), (1, _), (9, _), (11, _), (12, _)]) ?_ ⟨rfl, rfl, rfl, rfl, rfl, trivial⟩))
  refine WC.seq (WC.region ?_)
  refine WL.q (oq_move rfl) rfl rfl rfl ?_
  refine WL.q (oq_nilCheck rfl) rfl rfl rfl ?_
  refine WL.q (oq_fieldAddr fld202_1 rfl) rfl rfl rfl ?_
  refine WL.q (oq_load flat200 rfl (.tail _ (.tail _ (.tail _ (.tail _ (.tail _ (.tail _ (.tail _ (.head _)))))))) (List.mem_singleton.2 rfl) rfl) rfl rfl rfl ?_
  refine WL.q (oq_move rfl) rfl rfl rfl ?_
  refine WL.q (oq_makeI conc271 rfl) rfl rfl rfl ?_
  refine WL.q (oq_nilCheck rfl) rfl rfl rfl ?_
  refine WL.q (oq_fieldAddr fld204_0 rfl) rfl rfl rfl ?_
  refine WL.f8 ?_
  refine WL.store1 #[_, _] ty103 rfl rfl (by first | rfl | exact OwS.one one_) (Nat.lt_of_lt_of_le (Nat.lt_succ_self _) (Nat.le_of_ble_eq_true rfl)) rfl rfl ?_
  refine WL.nil (WE.then_normal (WC.sub (fr' := [(0, _), (1, _), (9, _), (11, _)]) ?_ ⟨rfl, rfl, rfl, rfl, trivial⟩))
  refine WC.cut (ι := Value × Hp × Hp × Value × Nat) (fun i_ => (fun (lv2 : Value) (L2 : Hp) (Y2 : Hp) (e2 : Value) (o16 : Nat) => [(9, Pt o9 0), (10, e2), (16, Pt o16 0)]) i_.1 i_.2.1 i_.2.2.1 i_.2.2.2.1 i_.2.2.2.2) (fun i_ => (fun (lv2 : Value) (L2 : Hp) (Y2 : Hp) (e2 : Value) (o16 : Nat) => [CS K.cb lv2 K.stop K.fail, L2, KB K.kb (Tr K.stop (x.id :: (r.map Nd.id ++ ids))).2, X, Y2, [(o9, Obj.cells #[.map none] 59 (0, 0))], [(o16, Obj.cells #[.nilIface] 105 (0, 0))], R0]) i_.1 i_.2.1 i_.2.2.1 i_.2.2.2.1 i_.2.2.2.2) (fun i_ => (fun (lv2 : Value) (L2 : Hp) (Y2 : Hp) (e2 : Value) (o16 : Nat) => OwL w0.heap.size lv2 L2 (l ++ (Tr K.stop (x.id :: (r.map Nd.id ++ ids))).1) ∧ (∀ b o, (b, o) ∈ Y2 → w0.heap.size ≤ b) ∧ ErrOk e2 (!(Tr K.stop (x.id :: (r.map Nd.id ++ ids))).2) K.fail ∧ w0.heap.size ≤ o16) i_.1 i_.2.1 i_.2.2.1 i_.2.2.2.1 i_.2.2.2.2) ?_ ?_
  ·
   refine WC.f10 ?_
   refine WC.f3 ?_
   refine WC.f3 ?_
   refine WC.f10 ?_
   refine WC.f4 ?_
   refine WC.f10 ?_
   refine WC.reg (regY (c := ch 200 204 231 (x :: r) (.iface 271 (Pt w 0))) (.of_eq (by rw [h, ch_app]; rfl))) ?_
   have hY0 : ∀ b o, (b, o) ∈ ([(sb, .cells #[Pt x.b 0, Pt y.b 0] 202 (0, 0))] ++ (ch 200 204 231 (x :: r) (.iface 271 (Pt w 0)) ++ ([(w, Obj.cells #[.iface hk hv] 273 (0, 0))] ++ ([(o11, Obj.cells #[.nilIface] 101 (0, 0))] ++ Y))) : Hp) → w0.heap.size ≤ b := fresh_cat (fresh1 hsb) (fresh_cat (ch_fresh hfr) (fresh_cat (fresh1 hw) (fresh_cat (fresh1 ho11) hY)))
   have hdY := (((hd.frame [(o11, Obj.cells #[.nilIface] 101 (0, 0))] (fresh1 ho11)).frame [(w, Obj.cells #[.iface hk hv] 273 (0, 0))] (fresh1 hw)).frame (ch 200 204 231 (x :: r) (.iface 271 (Pt w 0))) (ch_fresh hfr)).frame [(sb, .cells #[Pt x.b 0, Pt y.b 0] 202 (0, 0))] (fresh1 hsb)
   have hW := wrd0 hY0 hdY (List.mem_append_right _ (List.mem_append_right _ (List.mem_append_left _ (List.mem_singleton.2 rfl))))
   have hH := head0 hX3 hY0 hW x r hr (fun z hz => List.mem_append_right _ (List.mem_append_left _ hz))
   refine WC.gate 8 ([(sb, .cells #[Pt x.b 0, Pt y.b 0] 202 (0, 0))] ++ (ch 200 204 231 (x :: r) (.iface 271 (Pt w 0)) ++ ([(w, Obj.cells #[.iface hk hv] 273 (0, 0))] ++ ([(o11, Obj.cells #[.nilIface] 101 (0, 0))] ++ Y)))) (by kernel_rfl) ?_
   refine WG.q 0 [5, 4, 3, 2, 1] rfl (.head _) (fun w0 => oq_move rfl) rfl rfl rfl ?_
   refine WG.q 1 [5, 4, 3, 2] rfl (.head _) (fun w0 => oq_nilCheck rfl) rfl rfl rfl ?_
   refine WG.q 2 [5, 4, 3] rfl (.head _) (fun w0 => oq_fieldAddr fld202_0 rfl) rfl rfl rfl ?_
   refine WG.q 3 [5, 4] rfl (.head _) (fun w0 => oq_load flat200 rfl (.head _) (List.mem_append_left _ (List.mem_singleton.2 rfl)) rfl) rfl rfl rfl ?_
   refine WG.q 4 [5] rfl (.head _) (fun w0 => oq_nilCheck rfl) rfl rfl rfl ?_
   refine WG.q 5 [] rfl (.head _) (fun w0 => oq_loadS [_, _] agg204 ty204 rfl (.head _) (List.mem_append_right _ (List.mem_append_left _ List.mem_cons_self)) rfl rfl) rfl rfl rfl ?_
   refine WG.q 6 [] rfl (.head _) (fun w0 => oq_move rfl) rfl rfl rfl ?_
   refine WG.q 7 [] rfl (.head _) (fun w0 => oq_loadS [_] agg101 ty101 rfl (.head _) (List.mem_append_right _ (List.mem_append_right _ (List.mem_append_right _ (List.mem_append_left _ (List.mem_singleton.2 rfl))))) rfl rfl) rfl rfl rfl ?_
   refine WG.fork2 (i := 8) (j := 13) (by kernel_rfl) rfl rfl ?_ ?_
   ·
    refine WL.f5 ?_
    refine WL.f5 ?_
    refine WL.f5 ?_
    refine WL.f5 ?_
    refine WL.callW5 (hH l lv L ho hl) call149 rfl rfl rfl fun v7_8 Hs7_8 hR7_8 => ?_
    obtain ⟨lv2, L2, Y2, e2, rfl, rfl, ho2, hY2, he2⟩ := hR7_8
    refine WL.to5 ?_
    refine WL.nil ?_
    refine WE.toG0 (by kernel_rfl) ?_
    refine WG.p 9 rfl (.inl (by kernel_rfl)) (fun w0 => oq_move rfl) rfl rfl rfl ?_
    refine WG.p 10 rfl (.inl (by kernel_rfl)) (fun w0 => oq_extract rfl rfl) rfl rfl rfl ?_
    refine WG.p 11 rfl (.inl (by kernel_rfl)) (fun w0 => oq_extract rfl rfl) rfl rfl rfl ?_
    refine WG.p 12 rfl (.inl (by kernel_rfl)) (fun w0 => oq_extract rfl rfl) rfl rfl rfl ?_
    refine WG.step (i := 13) (by kernel_rfl) rfl ?_
    refine WL.alloc ty105 rfl rfl fun o16 ho16 => ?_
    refine WL.nil ?_
    refine WE.toG0 (by kernel_rfl) ?_
    refine WG.step (i := 14) (by kernel_rfl) rfl ?_
    refine WL.storeS #[_] ty105 rfl rfl rfl rfl (Nat.le_of_ble_eq_true rfl) rfl rfl ?_
    refine WL.nil ?_
    refine WE.toG0 (by kernel_rfl) ?_
    refine WG.step (i := 15) (by kernel_rfl) rfl ?_
    refine WL.f6 ?_
    refine WL.storeS #[_] ty59 rfl rfl rfl rfl (Nat.le_of_ble_eq_true rfl) rfl rfl ?_
    refine WL.nil ?_
    refine WE.toG0 (by kernel_rfl) ?_
    refine WG.p 16 rfl (.inl (by kernel_rfl)) (fun w0 => oq_assign rfl) rfl rfl rfl ?_
    refine WG.done (by kernel_rfl) ?_
    refine WE.f7 ?_
    refine WE.f2 ?_
    refine WE.f2 ?_
    refine WE.f7 ?_
    refine WE.f7 ?_
    refine WE.f7 ?_
    refine WE.f7 ?_
    refine WE.f7 ?_
    refine WE.meet (_, _, _, _, _) ?_ ⟨rfl, rfl, rfl, trivial⟩ (List.Perm.refl _)
    try dsimp only
    exact ⟨ho2, hY2, he2, ho16⟩
   ·
    refine WL.alloc ty105 rfl rfl fun o16 ho16 => ?_
    refine WL.nil ?_
    refine WE.toG (.tail _ (.head _)) ?_
    refine WG.step (i := 8) (by kernel_rfl) rfl ?_
    refine WL.f1 ?_
    refine WL.f6 ?_
    refine WL.f6 ?_
    refine WL.f6 ?_
    refine WL.f6 ?_
    refine WL.callW5 (hH l lv L ho hl) call149 rfl rfl rfl fun v7_8 Hs7_8 hR7_8 => ?_
    obtain ⟨lv2, L2, Y2, e2, rfl, rfl, ho2, hY2, he2⟩ := hR7_8
    refine WL.to5 ?_
    refine WL.nil ?_
    refine WE.toG0 (by kernel_rfl) ?_
    refine WG.p 9 rfl (.inl (by kernel_rfl)) (fun w0 => oq_move rfl) rfl rfl rfl ?_
    refine WG.p 10 rfl (.inl (by kernel_rfl)) (fun w0 => oq_extract rfl rfl) rfl rfl rfl ?_
    refine WG.p 11 rfl (.inl (by kernel_rfl)) (fun w0 => oq_extract rfl rfl) rfl rfl rfl ?_
    refine WG.p 12 rfl (.inl (by kernel_rfl)) (fun w0 => oq_extract rfl rfl) rfl rfl rfl ?_
    refine WG.step (i := 14) (by kernel_rfl) rfl ?_
    refine WL.f5 ?_
    refine WL.storeS #[_] ty105 rfl rfl rfl rfl (Nat.le_of_ble_eq_true rfl) rfl rfl ?_
    refine WL.nil ?_
    refine WE.toG0 (by kernel_rfl) ?_
    refine WG.step (i := 15) (by kernel_rfl) rfl ?_
    refine WL.f6 ?_
    refine WL.storeS #[_] ty59 rfl rfl rfl rfl (Nat.le_of_ble_eq_true rfl) rfl rfl ?_
    refine WL.nil ?_
    refine WE.toG0 (by kernel_rfl) ?_
    refine WG.p 16 rfl (.inl (by kernel_rfl)) (fun w0 => oq_assign rfl) rfl rfl rfl ?_
    refine WG.done (by kernel_rfl) ?_
    refine WE.f7 ?_
    refine WE.f2 ?_
    refine WE.f2 ?_
    refine WE.f7 ?_
    refine WE.f7 ?_
    refine WE.f7 ?_
    refine WE.f7 ?_
    refine WE.f7 ?_
    refine WE.meet (_, _, _, _, _) ?_ ⟨rfl, rfl, rfl, trivial⟩ (List.Perm.refl _)
    try dsimp only
    exact ⟨ho2, hY2, he2, ho16⟩
  ·rintro ⟨lv2, L2, Y2, e2, o16⟩ hp
   try dsimp only at hp
   obtain ⟨ho2, hY2, he2, ho16⟩ := hp
   show WC _ _ _ _ _ _ ([(9, Pt o9 0), (10, e2), (16, Pt o16 0)]) ([CS K.cb lv2 K.stop K.fail, L2, KB K.kb (Tr K.stop (x.id :: (r.map Nd.id ++ ids))).2, X, Y2, [(o9, Obj.cells #[.map none] 59 (0, 0))], [(o16, Obj.cells #[.nilIface] 105 (0, 0))], R0])
   refine WC.seq ?_
   refine WC.gate 5 ([(o16, Obj.cells #[.nilIface] 105 (0, 0))]) (by kernel_rfl) ?_
   refine WG.q 0 [] rfl (.tail _ (.tail _ (.tail _ (.tail _ (.tail _ (.tail _ (.head _))))))) (fun w0 => oq_fieldAddr fld105_0 rfl) rfl rfl rfl ?_
   refine WG.q 1 [] rfl (.tail _ (.tail _ (.tail _ (.tail _ (.tail _ (.tail _ (.head _))))))) (fun w0 => oq_load flat20 rfl (.head _) (List.mem_singleton.2 rfl) rfl) rfl rfl rfl ?_
   refine WG.p 3 rfl (.inr (.tail _ (.tail _ (.tail _ (.tail _ (.tail _ (.tail _ (.head _)))))))) (fun w0 => oq_move rfl) rfl rfl rfl ?_
   refine WG.q 4 [] rfl (.tail _ (.tail _ (.tail _ (.tail _ (.tail _ (.tail _ (.head _))))))) (fun w0 => oq_assign rfl) rfl rfl rfl ?_
   refine WG.step (i := 2) (by kernel_rfl) rfl ?_
   refine WL.q (oq_loadS [_] agg59 ty59 rfl (.tail _ (.tail _ (.tail _ (.tail _ (.tail _ (.head _)))))) (List.mem_singleton.2 rfl) rfl rfl) rfl rfl rfl ?_
   refine WL.nil ?_
   refine WE.toG (.tail _ (.tail _ (.tail _ (.tail _ (.tail _ (.tail _ (.head _))))))) ?_
   refine WG.step (i := 5) (by kernel_rfl) rfl ?_
   refine WL.f5 ?_
   refine WL.storeS #[_] ty59 rfl rfl rfl rfl (Nat.le_of_ble_eq_true rfl) rfl rfl ?_
   refine WL.nil ?_
   refine WE.toG0 (by kernel_rfl) ?_
   refine WG.p 6 rfl (.inl (by kernel_rfl)) (fun w0 => oq_assign rfl) rfl rfl rfl ?_
   refine WG.done (by kernel_rfl) ?_
   refine WE.then_normal (WC.sub (fr' := [(8, _), (9, _), (10, _)]) ?_ ⟨rfl, rfl, rfl, trivial⟩)
   refine WC.ret ?_
   refine WE.endDW [_, _, _, _, _] (.inl rfl) (rs3 Tryz.results166 (rv_tmp rfl) (rv_cellS [_] agg59 ty59 rfl (.head _) (List.mem_singleton.2 rfl) rfl rfl) (rv_tmp rfl)) (dr_lose ho9 (dr_f5 (dr_lose ho16 dr_refl))) ?_
   exact crSame (ov' := .nilIface) ho2 hY2 he2
theorem step0 {base sb b3 : Nat} {K : KE} {X Y : Hp} {ids : List (List UInt8)} {hk : TypeId} {hv : Value} (hY : ∀ b o, (b, o) ∈ Y → base ≤ b) (hd : HD base K "Handle" .nilIface X Y (.iface hk hv) .nilIface ids) (hX3 : (b3, Obj.cells #[Pt K.cb 0] 54 (0, 0)) ∈ X) (its : List Nd)
  (hr : ∀ z ∈ its, Okn 0 b3 X z ∧ z.id.length ≤ 100000) (hfr : ∀ z ∈ its, base ≤ z.b) (hsb : base ≤ sb) : HC base K 166 [Pt sb 0, CTX, .nilIface, .iface hk hv] X (stg 0 sb NR its ++ Y) .nilIface (its.map Nd.id ++ ids) := by
 intro l lv L ho hl
 cases its with
 | nil =>
  refine (step0_0 base sb K X Y ids hk hv hY hd l lv L ho hl).reg (by simp [stg, ch, scells, hdp, lastp]; rfl) ?_
  rintro v Hs ⟨lv2, L2, Y2, e2, s, rfl, rfl, h1, h2, h3, h4⟩
  exact ⟨_, ⟨lv2, L2, s ++ Y2, e2, rfl, rfl, h1, fresh_cat (fun b o hb => by rw [h4 b o hb]; exact hsb) h2, h3⟩, by simp⟩
 | cons x r =>
  obtain h | ⟨A1, y, h⟩ := nd_ends (x :: r)
  ·cases h
  ·have hl2 : lastp (x :: r) = Pt y.b 0 := by rw [h, lastp_snoc]
   have e : stg 0 sb NR (x :: r) = [(sb, .cells #[Pt x.b 0, Pt y.b 0] 202 (0, 0))] ++ (ch 200 204 231 A1 (.iface 200 (Pt y.b 0)) ++ [(y.b, Obj.cells #[.nilIface, wv 231 y] 204 (0, 0))]) := by
    show [(sb, Obj.cells (scells 0 (hdp (x :: r)) (lastp (x :: r)) NR) _ _)] ++ ch _ _ _ (x :: r) _ = _
    rw [hl2]
    congr 1
    rw [h, ch_app]; rfl
   refine (stepC_0 base sb b3 K X Y ids hk hv hY hd x y r A1 h hX3 hr hfr hsb l lv L ho hl).reg ?_ (fun v Hs hh => ⟨Hs, hh, List.Perm.refl _⟩)
   rw [e]
   exact regI
theorem invP_dec1 : InvP2 Tryz.prog 206 210 "HandleSerialize" 150 := invp2_of (mrow_of Tryz.underlying206 call150 (by kernel_rfl))
theorem invP_wr1 : InvP2 Tryz.prog 274 275 "HandleSerialize" 169 := invp2_of (mrow_of Tryz.underlying274 call169 (by kernel_rfl))
theorem node1 {base : Nat} {K : KE} {X Y : Hp} {b3 : Nat} {x : Nd} {h : Value} {ids : List (List UInt8)} (hX3 : (b3, Obj.cells #[Pt K.cb 0] 54 (0, 0)) ∈ X) (hx : Okn 1 b3 X x) (hi : x.id.length ≤ 100000) (hY : ∀ b o, (b, o) ∈ Y → base ≤ b) (hd : HD base K "HandleSerialize" (.agg #[.nilIface, .nilIface]) X Y h (.agg #[.nilIface]) ids) :
  HC base K 150 [.agg #[h, wv 235 x], CTX, .agg #[.nilIface, .nilIface]] X Y (.agg #[.nilIface]) (x.id :: ids) := by
 obtain ⟨q, hq, hXq⟩ := hx
 unfold wv
 rw [hq]
 exact dech1 base K X Y b3 q x.id _ h hY (mfh1 base K X Y b3 q x.id _ h hY (inner1 base K b3 q x.id ids X Y h hi hX3 hXq hY hd))
theorem chain1 {base : Nat} {K : KE} {X Y : Hp} {b3 : Nat} {e : Value} {ids : List (List UInt8)} (hX3 : (b3, Obj.cells #[Pt K.cb 0] 54 (0, 0)) ∈ X) (hY : ∀ b o, (b, o) ∈ Y → base ≤ b) (hd : HD base K "HandleSerialize" (.agg #[.nilIface, .nilIface]) X Y e (.agg #[.nilIface]) ids) :
  ∀ (r : List Nd), (∀ x ∈ r, Okn 1 b3 X x ∧ x.id.length ≤ 100000) → (∀ z, z ∈ ch 206 210 235 r e → z ∈ Y) → HD base K "HandleSerialize" (.agg #[.nilIface, .nilIface]) X Y (nextOf 206 r e) (.agg #[.nilIface]) (r.map Nd.id ++ ids)
 | [], _, _ => hd
 | x :: r, hr, hm => by
  obtain ⟨h1, h2⟩ := hr x List.mem_cons_self
  have ih := chain1 hX3 hY hd r (fun y hy => hr y (List.mem_cons_of_mem _ hy)) (fun z hz => hm z (List.mem_cons_of_mem _ hz))
  exact ⟨150, _, inv_of_p2 (cells := [nextOf 206 r e, wv 235 x]) invP_dec1 agg210 ty210 rfl (hm _ List.mem_cons_self), node1 hX3 h1 h2 hY ih⟩
theorem head1 {base : Nat} {K : KE} {X Y : Hp} {b3 : Nat} {e : Value} {ids : List (List UInt8)} (hX3 : (b3, Obj.cells #[Pt K.cb 0] 54 (0, 0)) ∈ X) (hY : ∀ b o, (b, o) ∈ Y → base ≤ b) (hd : HD base K "HandleSerialize" (.agg #[.nilIface, .nilIface]) X Y e (.agg #[.nilIface]) ids)
  (x : Nd) (r : List Nd) (hr : ∀ y ∈ x :: r, Okn 1 b3 X y ∧ y.id.length ≤ 100000) (hm : ∀ z, z ∈ ch 206 210 235 (x :: r) e → z ∈ Y) : HC base K 150 [.agg #[nextOf 206 r e, wv 235 x], CTX, .agg #[.nilIface, .nilIface]] X Y (.agg #[.nilIface]) (x.id :: (r.map Nd.id ++ ids)) :=
 node1 hX3 (hr x List.mem_cons_self).1 (hr x List.mem_cons_self).2 hY (chain1 hX3 hY hd r (fun y hy => hr y (List.mem_cons_of_mem _ hy)) (fun z hz => hm z (List.mem_cons_of_mem _ hz)))
theorem wrd1 {base : Nat} {K : KE} {X Y : Hp} {b : Nat} {h : Value} {ids : List (List UInt8)} (hY : ∀ b o, (b, o) ∈ Y → base ≤ b) (hd : HD base K "Handle" .nilIface X Y h .nilIface ids) (hb : (b, Obj.cells #[h] 275 (0, 0)) ∈ Y) : HD base K "HandleSerialize" (.agg #[.nilIface, .nilIface]) X Y (.iface 274 (Pt b 0)) (.agg #[.nilIface]) ids :=
 ⟨169, _, inv_of_p2 (cells := [h]) invP_wr1 agg275 ty275 rfl hb, wrh1 base K X Y ids h hY hd⟩
theorem step0_1 (base sb : Nat) (K : KE) (X Y : Hp) (ids : List (List UInt8)) (hk : TypeId) (hv : Value) (hY : ∀ b o, (b, o) ∈ Y → base ≤ b) (hd : HD base K "Handle" .nilIface X Y (.iface hk hv) .nilIface ids) (l : List (List UInt8)) (lv : Value) (L : Hp) (ho : OwL base lv L l) (hl : l.length + 2 * ids.length ≤ 100000) : FnW Tryz.prog 168 [Pt sb 0, CTX, .nilIface, .iface hk hv] base [CS K.cb lv K.stop K.fail, L, KB K.kb false, X, [(sb, .cells #[.pointer none, .pointer none, NR] 208 (0, 0))], Y] (fun v Hs => ∃ lv2 L2 Y2 e2 s, Hs = [CS K.cb lv2 K.stop K.fail, L2, KB K.kb (Tr K.stop ids).2, X, s, Y2] ∧ v = .tuple #[.nilIface, META, e2] ∧ OwL base lv2 L2 (l ++ (Tr K.stop ids).1) ∧ (∀ b o, (b, o) ∈ Y2 → base ≤ b) ∧ ErrOk e2 (!(Tr K.stop ids).2) K.fail ∧ ∀ b o, (b, o) ∈ s → b = sb) := by
 refine FnW.enter (n := 71) Tryz.func168 rfl rfl fun w0 R0 hbase => ?_
 subst hbase
 show WC _ _ _ _ _ _ _ ([CS K.cb lv K.stop K.fail, L, KB K.kb false, X, [(sb, .cells #[.pointer none, .pointer none, NR] 208 (0, 0))], Y, R0])
 refine WC.sub (fr' := [(0, _), (1, _), (2, _), (3, _)]) ?_ ⟨rfl, rfl, rfl, rfl, trivial⟩
 refine WC.seq (WC.region ?_)
 refine WL.q (oq_assign rfl) rfl rfl rfl ?_
 refine WL.alloc ty59 rfl rfl fun o9 ho9 => ?_
 refine WL.q (oq_assign rfl) rfl rfl rfl ?_
 refine WL.nil (WE.then_normal (WC.sub (fr' := [(0, _), (1, _), (2, _), (3, _), (9, _)]) ?_ ⟨rfl, rfl, rfl, rfl, rfl, trivial⟩))
 refine WC.seq (WC.region ?_)
 refine WL.q (oq_move rfl) rfl rfl rfl ?_
 refine WL.q (oq_move rfl) rfl rfl rfl ?_
 refine WL.q (oq_nilCheck rfl) rfl rfl rfl ?_
 refine WL.q (oq_fieldAddr fld208_2 rfl) rfl rfl rfl ?_
 refine WL.q (oq_load flat72 rfl (.tail _ (.tail _ (.tail _ (.tail _ (.tail _ (.head _)))))) (List.mem_singleton.2 rfl) rfl) rfl rfl rfl ?_
 refine WL.qc (oq_callv0 (nr0) call28 rfl rfl) rfl rfl rfl ?_
 refine WL.q (oq_build #[_, _] str124 ty124 rfl rfl) rfl rfl rfl ?_
 refine WL.alloc ty124 rfl rfl fun o11 ho11 => ?_
 refine WL.storeS #[_, _] ty124 rfl rfl rfl rfl (Nat.le_of_ble_eq_true rfl) rfl rfl ?_
 refine WL.nil (WE.then_normal (WC.sub (fr' := [(0, _), (1, _), (3, _), (9, _), (11, _)]) ?_ ⟨rfl, rfl, rfl, rfl, rfl, trivial⟩))
 refine WC.seq (WC.region ?_)
 refine WL.q (oq_move rfl) rfl rfl rfl ?_
 refine WL.q (oq_build #[_] str275 ty275 rfl rfl) rfl rfl rfl ?_
 refine WL.box rfl rfl rfl fun w hw => ?_
 refine WL.q (oq_assign rfl) rfl rfl rfl ?_
 refine WL.nil (WE.then_normal (WC.sub (fr' := [(0, _), (1, _), (9, _), (11, _), (12, _)]) ?_ ⟨rfl, rfl, rfl, rfl, rfl, trivial⟩))
 refine WC.seq (WC.seq (WC.region ?_))
 refine WL.q (oq_move rfl) rfl rfl rfl ?_
 refine WL.q (oq_nilCheck rfl) rfl rfl rfl ?_
 refine WL.q (oq_fieldAddr fld208_0 rfl) rfl rfl rfl ?_
 refine WL.q (oq_load flat206 rfl (.tail _ (.tail _ (.tail _ (.tail _ (.tail _ (.tail _ (.tail _ (.head _)))))))) (List.mem_singleton.2 rfl) rfl) rfl rfl rfl ?_
 refine WL.q (oq_peql Tryz.underlying206 rfl rfl) rfl rfl rfl ?_
 refine WL.nil (WE.then_normal (WC.sub (fr' := [(0, _), (1, _), (9, _), (11, _), (12, _), (31, _)]) ?_ ⟨rfl, rfl, rfl, rfl, rfl, rfl, trivial⟩))
 refine WC.cond rfl (fun q3 => ?_) (fun q3 => ?_)
 ·
  try simp only [Z1, Z2, Z3, Z4, Z5, Z6, Z7, Z8, Z9, Z0] at q3
  refine WC.cut (ι := Value × Hp × Hp × Value × Nat × Nat) (fun i_ => (fun (lv2 : Value) (L2 : Hp) (Y2 : Hp) (e2 : Value) (o13 : Nat) (o14 : Nat) => [(9, Pt o9 0), (13, Pt o13 0), (14, Pt o14 0), (15, e2)]) i_.1 i_.2.1 i_.2.2.1 i_.2.2.2.1 i_.2.2.2.2.1 i_.2.2.2.2.2) (fun i_ => (fun (lv2 : Value) (L2 : Hp) (Y2 : Hp) (e2 : Value) (o13 : Nat) (o14 : Nat) => [CS K.cb lv2 K.stop K.fail, L2, KB K.kb (Tr K.stop ids).2, X, Y2, [(sb, .cells #[.pointer none, .pointer none, NR] 208 (0, 0))], [(o9, Obj.cells #[.map none] 59 (0, 0))], [(o13, Obj.cells #[.nilIface] 127 (0, 0))], [(o14, Obj.cells #[.map none] 59 (0, 0))], R0]) i_.1 i_.2.1 i_.2.2.1 i_.2.2.2.1 i_.2.2.2.2.1 i_.2.2.2.2.2) (fun i_ => (fun (lv2 : Value) (L2 : Hp) (Y2 : Hp) (e2 : Value) (o13 : Nat) (o14 : Nat) => OwL w0.heap.size lv2 L2 (l ++ (Tr K.stop ids).1) ∧ (∀ b o, (b, o) ∈ Y2 → w0.heap.size ≤ b) ∧ ErrOk e2 (!(Tr K.stop ids).2) K.fail ∧ w0.heap.size ≤ o13 ∧ w0.heap.size ≤ o14) i_.1 i_.2.1 i_.2.2.1 i_.2.2.2.1 i_.2.2.2.2.1 i_.2.2.2.2.2) ?_ ?_
  ·
   refine WC.f1 ?_
   refine WC.f1 ?_
   refine WC.cat ?_
   refine WC.gate 5 ([(w, Obj.cells #[.iface hk hv] 275 (0, 0))] ++ [(o11, Obj.cells #[.nilIface, .nilIface] 124 (0, 0))]) (by kernel_rfl) ?_
   refine WG.q 0 [2, 1] rfl (.head _) (fun w0 => oq_move rfl) rfl rfl rfl ?_
   refine WG.q 1 [2] rfl (.head _) (fun w0 => oq_nilCheck rfl) rfl rfl rfl ?_
   refine WG.q 2 [] rfl (.head _) (fun w0 => oq_loadS [_] agg275 ty275 rfl (.head _) (List.mem_append_left _ (List.mem_singleton.2 rfl)) rfl rfl) rfl rfl rfl ?_
   refine WG.q 3 [] rfl (.head _) (fun w0 => oq_move rfl) rfl rfl rfl ?_
   refine WG.q 4 [] rfl (.head _) (fun w0 => oq_loadS [_, _] agg124 ty124 rfl (.head _) (List.mem_append_right _ (List.mem_singleton.2 rfl)) rfl rfl) rfl rfl rfl ?_
   refine WG.fork3 (i := 5) (j := 10) (m := 11) (by kernel_rfl) rfl rfl rfl ?_ ?_ ?_
   ·
    refine WL.f7 ?_
    refine WL.f6 ?_
    refine WL.f6 ?_
    refine WL.f6 ?_
    refine WL.f6 ?_
    refine WL.callW5 (wrh1 _ K X Y ids _ hY hd l lv L ho hl) call169 rfl rfl rfl fun v4_5 Hs4_5 hR4_5 => ?_
    obtain ⟨lv2, L2, Y2, e2, rfl, rfl, ho2, hY2, he2⟩ := hR4_5
    refine WL.to5 ?_
    refine WL.nil ?_
    refine WE.toG0 (by kernel_rfl) ?_
    refine WG.p 6 rfl (.inl (by kernel_rfl)) (fun w0 => oq_move rfl) rfl rfl rfl ?_
    refine WG.p 7 rfl (.inl (by kernel_rfl)) (fun w0 => oq_extract rfl rfl) rfl rfl rfl ?_
    refine WG.p 8 rfl (.inl (by kernel_rfl)) (fun w0 => oq_extract rfl rfl) rfl rfl rfl ?_
    refine WG.p 9 rfl (.inl (by kernel_rfl)) (fun w0 => oq_extract rfl rfl) rfl rfl rfl ?_
    refine WG.fork2 (i := 10) (j := 11) (by kernel_rfl) rfl rfl ?_ ?_
    ·
     refine WL.alloc ty127 rfl rfl fun o13 ho13 => ?_
     refine WL.nil ?_
     refine WE.toG0 (by kernel_rfl) ?_
     refine WG.step (i := 11) (by kernel_rfl) rfl ?_
     refine WL.alloc ty59 rfl rfl fun o14 ho14 => ?_
     refine WL.nil ?_
     refine WE.toG0 (by kernel_rfl) ?_
     refine WG.step (i := 12) (by kernel_rfl) rfl ?_
     refine WL.f1 ?_
     refine WL.storeS #[_] ty127 rfl rfl rfl rfl (Nat.le_of_ble_eq_true rfl) rfl rfl ?_
     refine WL.nil ?_
     refine WE.toG0 (by kernel_rfl) ?_
     refine WG.step (i := 13) (by kernel_rfl) rfl ?_
     refine WL.f1 ?_
     refine WL.storeS #[_] ty59 rfl rfl rfl rfl (Nat.le_of_ble_eq_true rfl) rfl rfl ?_
     refine WL.nil ?_
     refine WE.toG0 (by kernel_rfl) ?_
     refine WG.p 14 rfl (.inl (by kernel_rfl)) (fun w0 => oq_assign rfl) rfl rfl rfl ?_
     refine WG.done (by kernel_rfl) ?_
     refine WE.f7 ?_
     refine WE.forget (fresh_cat (fresh1 hw) (fresh1 ho11)) ?_
     refine WE.f9 ?_
     refine WE.f1 ?_
     refine WE.f2 ?_
     refine WE.f8 ?_
     refine WE.f9 ?_
     refine WE.f9 ?_
     refine WE.f9 ?_
     refine WE.f9 ?_
     refine WE.f9 ?_
     refine WE.f9 ?_
     refine WE.meet (_, _, _, _, _, _) ?_ ⟨rfl, rfl, rfl, rfl, trivial⟩ (List.Perm.refl _)
     try dsimp only
     exact ⟨ho2, hY2, he2, ho13, ho14⟩
    ·
     refine WL.alloc ty59 rfl rfl fun o14 ho14 => ?_
     refine WL.nil ?_
     refine WE.toG0 (by kernel_rfl) ?_
     refine WG.step (i := 10) (by kernel_rfl) rfl ?_
     refine WL.alloc ty127 rfl rfl fun o13 ho13 => ?_
     refine WL.nil ?_
     refine WE.toG0 (by kernel_rfl) ?_
     refine WG.step (i := 12) (by kernel_rfl) rfl ?_
     refine WL.storeS #[_] ty127 rfl rfl rfl rfl (Nat.le_of_ble_eq_true rfl) rfl rfl ?_
     refine WL.nil ?_
     refine WE.toG0 (by kernel_rfl) ?_
     refine WG.step (i := 13) (by kernel_rfl) rfl ?_
     refine WL.f1 ?_
     refine WL.storeS #[_] ty59 rfl rfl rfl rfl (Nat.le_of_ble_eq_true rfl) rfl rfl ?_
     refine WL.nil ?_
     refine WE.toG0 (by kernel_rfl) ?_
     refine WG.p 14 rfl (.inl (by kernel_rfl)) (fun w0 => oq_assign rfl) rfl rfl rfl ?_
     refine WG.done (by kernel_rfl) ?_
     refine WE.f7 ?_
     refine WE.forget (fresh_cat (fresh1 hw) (fresh1 ho11)) ?_
     refine WE.f9 ?_
     refine WE.f1 ?_
     refine WE.f2 ?_
     refine WE.f8 ?_
     refine WE.f9 ?_
     refine WE.f9 ?_
     refine WE.f9 ?_
     refine WE.f9 ?_
     refine WE.f9 ?_
     refine WE.f9 ?_
     refine WE.meet (_, _, _, _, _, _) ?_ ⟨rfl, rfl, rfl, rfl, trivial⟩ (List.Perm.refl _)
     try dsimp only
     exact ⟨ho2, hY2, he2, ho13, ho14⟩
   ·
    refine WL.alloc ty127 rfl rfl fun o13 ho13 => ?_
    refine WL.nil ?_
    refine WE.toG (.tail _ (.head _)) ?_
    refine WG.fork2 (i := 5) (j := 11) (by kernel_rfl) rfl rfl ?_ ?_
    ·
     refine WL.f8 ?_
     refine WL.f7 ?_
     refine WL.f7 ?_
     refine WL.f7 ?_
     refine WL.f7 ?_
     refine WL.callW5 (wrh1 _ K X Y ids _ hY hd l lv L ho hl) call169 rfl rfl rfl fun v4_5 Hs4_5 hR4_5 => ?_
     obtain ⟨lv2, L2, Y2, e2, rfl, rfl, ho2, hY2, he2⟩ := hR4_5
     refine WL.to5 ?_
     refine WL.nil ?_
     refine WE.toG0 (by kernel_rfl) ?_
     refine WG.p 6 rfl (.inl (by kernel_rfl)) (fun w0 => oq_move rfl) rfl rfl rfl ?_
     refine WG.p 7 rfl (.inl (by kernel_rfl)) (fun w0 => oq_extract rfl rfl) rfl rfl rfl ?_
     refine WG.p 8 rfl (.inl (by kernel_rfl)) (fun w0 => oq_extract rfl rfl) rfl rfl rfl ?_
     refine WG.p 9 rfl (.inl (by kernel_rfl)) (fun w0 => oq_extract rfl rfl) rfl rfl rfl ?_
     refine WG.step (i := 11) (by kernel_rfl) rfl ?_
     refine WL.alloc ty59 rfl rfl fun o14 ho14 => ?_
     refine WL.nil ?_
     refine WE.toG0 (by kernel_rfl) ?_
     refine WG.step (i := 12) (by kernel_rfl) rfl ?_
     refine WL.f6 ?_
     refine WL.storeS #[_] ty127 rfl rfl rfl rfl (Nat.le_of_ble_eq_true rfl) rfl rfl ?_
     refine WL.nil ?_
     refine WE.toG0 (by kernel_rfl) ?_
     refine WG.step (i := 13) (by kernel_rfl) rfl ?_
     refine WL.f1 ?_
     refine WL.storeS #[_] ty59 rfl rfl rfl rfl (Nat.le_of_ble_eq_true rfl) rfl rfl ?_
     refine WL.nil ?_
     refine WE.toG0 (by kernel_rfl) ?_
     refine WG.p 14 rfl (.inl (by kernel_rfl)) (fun w0 => oq_assign rfl) rfl rfl rfl ?_
     refine WG.done (by kernel_rfl) ?_
     refine WE.f7 ?_
     refine WE.forget (fresh_cat (fresh1 hw) (fresh1 ho11)) ?_
     refine WE.f9 ?_
     refine WE.f1 ?_
     refine WE.f2 ?_
     refine WE.f8 ?_
     refine WE.f9 ?_
     refine WE.f9 ?_
     refine WE.f9 ?_
     refine WE.f9 ?_
     refine WE.f9 ?_
     refine WE.f9 ?_
     refine WE.meet (_, _, _, _, _, _) ?_ ⟨rfl, rfl, rfl, rfl, trivial⟩ (List.Perm.refl _)
     try dsimp only
     exact ⟨ho2, hY2, he2, ho13, ho14⟩
    ·
     refine WL.alloc ty59 rfl rfl fun o14 ho14 => ?_
     refine WL.nil ?_
     refine WE.toG (.tail _ (.tail _ (.head _))) ?_
     refine WG.step (i := 5) (by kernel_rfl) rfl ?_
     refine WL.f9 ?_
     refine WL.f8 ?_
     refine WL.f8 ?_
     refine WL.f8 ?_
     refine WL.f8 ?_
     refine WL.callW5 (wrh1 _ K X Y ids _ hY hd l lv L ho hl) call169 rfl rfl rfl fun v4_5 Hs4_5 hR4_5 => ?_
     obtain ⟨lv2, L2, Y2, e2, rfl, rfl, ho2, hY2, he2⟩ := hR4_5
     refine WL.to5 ?_
     refine WL.nil ?_
     refine WE.toG0 (by kernel_rfl) ?_
     refine WG.p 6 rfl (.inl (by kernel_rfl)) (fun w0 => oq_move rfl) rfl rfl rfl ?_
     refine WG.p 7 rfl (.inl (by kernel_rfl)) (fun w0 => oq_extract rfl rfl) rfl rfl rfl ?_
     refine WG.p 8 rfl (.inl (by kernel_rfl)) (fun w0 => oq_extract rfl rfl) rfl rfl rfl ?_
     refine WG.p 9 rfl (.inl (by kernel_rfl)) (fun w0 => oq_extract rfl rfl) rfl rfl rfl ?_
     refine WG.step (i := 12) (by kernel_rfl) rfl ?_
     refine WL.f6 ?_
     refine WL.storeS #[_] ty127 rfl rfl rfl rfl (Nat.le_of_ble_eq_true rfl) rfl rfl ?_
     refine WL.nil ?_
     refine WE.toG0 (by kernel_rfl) ?_
     refine WG.step (i := 13) (by kernel_rfl) rfl ?_
     refine WL.f6 ?_
     refine WL.storeS #[_] ty59 rfl rfl rfl rfl (Nat.le_of_ble_eq_true rfl) rfl rfl ?_
     refine WL.nil ?_
     refine WE.toG0 (by kernel_rfl) ?_
     refine WG.p 14 rfl (.inl (by kernel_rfl)) (fun w0 => oq_assign rfl) rfl rfl rfl ?_
     refine WG.done (by kernel_rfl) ?_
     refine WE.f7 ?_
     refine WE.forget (fresh_cat (fresh1 hw) (fresh1 ho11)) ?_
     refine WE.f9 ?_
     refine WE.f1 ?_
     refine WE.f2 ?_
     refine WE.f8 ?_
     refine WE.f9 ?_
     refine WE.f9 ?_
     refine WE.f9 ?_
     refine WE.f9 ?_
     refine WE.f9 ?_
     refine WE.f9 ?_
     refine WE.meet (_, _, _, _, _, _) ?_ ⟨rfl, rfl, rfl, rfl, trivial⟩ (List.Perm.refl _)
     try dsimp only
     exact ⟨ho2, hY2, he2, ho13, ho14⟩
   ·
    refine WL.alloc ty59 rfl rfl fun o14 ho14 => ?_
    refine WL.nil ?_
    refine WE.toG (.tail _ (.head _)) ?_
    refine WG.fork2 (i := 5) (j := 10) (by kernel_rfl) rfl rfl ?_ ?_
    ·
     refine WL.f8 ?_
     refine WL.f7 ?_
     refine WL.f7 ?_
     refine WL.f7 ?_
     refine WL.f7 ?_
     refine WL.callW5 (wrh1 _ K X Y ids _ hY hd l lv L ho hl) call169 rfl rfl rfl fun v4_5 Hs4_5 hR4_5 => ?_
     obtain ⟨lv2, L2, Y2, e2, rfl, rfl, ho2, hY2, he2⟩ := hR4_5
     refine WL.to5 ?_
     refine WL.nil ?_
     refine WE.toG0 (by kernel_rfl) ?_
     refine WG.p 6 rfl (.inl (by kernel_rfl)) (fun w0 => oq_move rfl) rfl rfl rfl ?_
     refine WG.p 7 rfl (.inl (by kernel_rfl)) (fun w0 => oq_extract rfl rfl) rfl rfl rfl ?_
     refine WG.p 8 rfl (.inl (by kernel_rfl)) (fun w0 => oq_extract rfl rfl) rfl rfl rfl ?_
     refine WG.p 9 rfl (.inl (by kernel_rfl)) (fun w0 => oq_extract rfl rfl) rfl rfl rfl ?_
     refine WG.step (i := 10) (by kernel_rfl) rfl ?_
     refine WL.alloc ty127 rfl rfl fun o13 ho13 => ?_
     refine WL.nil ?_
     refine WE.toG0 (by kernel_rfl) ?_
     refine WG.step (i := 12) (by kernel_rfl) rfl ?_
     refine WL.storeS #[_] ty127 rfl rfl rfl rfl (Nat.le_of_ble_eq_true rfl) rfl rfl ?_
     refine WL.nil ?_
     refine WE.toG0 (by kernel_rfl) ?_
     refine WG.step (i := 13) (by kernel_rfl) rfl ?_
     refine WL.f6 ?_
     refine WL.storeS #[_] ty59 rfl rfl rfl rfl (Nat.le_of_ble_eq_true rfl) rfl rfl ?_
     refine WL.nil ?_
     refine WE.toG0 (by kernel_rfl) ?_
     refine WG.p 14 rfl (.inl (by kernel_rfl)) (fun w0 => oq_assign rfl) rfl rfl rfl ?_
     refine WG.done (by kernel_rfl) ?_
     refine WE.f7 ?_
     refine WE.forget (fresh_cat (fresh1 hw) (fresh1 ho11)) ?_
     refine WE.f9 ?_
     refine WE.f1 ?_
     refine WE.f2 ?_
     refine WE.f8 ?_
     refine WE.f9 ?_
     refine WE.f9 ?_
     refine WE.f9 ?_
     refine WE.f9 ?_
     refine WE.f9 ?_
     refine WE.f9 ?_
     refine WE.meet (_, _, _, _, _, _) ?_ ⟨rfl, rfl, rfl, rfl, trivial⟩ (List.Perm.refl _)
     try dsimp only
     exact ⟨ho2, hY2, he2, ho13, ho14⟩
    ·
     refine WL.alloc ty127 rfl rfl fun o13 ho13 => ?_
     refine WL.nil ?_
     refine WE.toG (.tail _ (.tail _ (.head _))) ?_
     refine WG.step (i := 5) (by kernel_rfl) rfl ?_
     refine WL.f9 ?_
     refine WL.f8 ?_
     refine WL.f8 ?_
     refine WL.f8 ?_
     refine WL.f8 ?_
     refine WL.callW5 (wrh1 _ K X Y ids _ hY hd l lv L ho hl) call169 rfl rfl rfl fun v4_5 Hs4_5 hR4_5 => ?_
     obtain ⟨lv2, L2, Y2, e2, rfl, rfl, ho2, hY2, he2⟩ := hR4_5
     refine WL.to5 ?_
     refine WL.nil ?_
     refine WE.toG0 (by kernel_rfl) ?_
     refine WG.p 6 rfl (.inl (by kernel_rfl)) (fun w0 => oq_move rfl) rfl rfl rfl ?_
     refine WG.p 7 rfl (.inl (by kernel_rfl)) (fun w0 => oq_extract rfl rfl) rfl rfl rfl ?_
     refine WG.p 8 rfl (.inl (by kernel_rfl)) (fun w0 => oq_extract rfl rfl) rfl rfl rfl ?_
     refine WG.p 9 rfl (.inl (by kernel_rfl)) (fun w0 => oq_extract rfl rfl) rfl rfl rfl ?_
     refine WG.step (i := 12) (by kernel_rfl) rfl ?_
     refine WL.f5 ?_
     refine WL.storeS #[_] ty127 rfl rfl rfl rfl (Nat.le_of_ble_eq_true rfl) rfl rfl ?_
     refine WL.nil ?_
     refine WE.toG0 (by kernel_rfl) ?_
     refine WG.step (i := 13) (by kernel_rfl) rfl ?_
     refine WL.f6 ?_
     refine WL.storeS #[_] ty59 rfl rfl rfl rfl (Nat.le_of_ble_eq_true rfl) rfl rfl ?_
     refine WL.nil ?_
     refine WE.toG0 (by kernel_rfl) ?_
     refine WG.p 14 rfl (.inl (by kernel_rfl)) (fun w0 => oq_assign rfl) rfl rfl rfl ?_
     refine WG.done (by kernel_rfl) ?_
     refine WE.f7 ?_
     refine WE.forget (fresh_cat (fresh1 hw) (fresh1 ho11)) ?_
     refine WE.f9 ?_
     refine WE.f1 ?_
     refine WE.f2 ?_
     refine WE.f8 ?_
     refine WE.f9 ?_
     refine WE.f9 ?_
     refine WE.f9 ?_
     refine WE.f9 ?_
     refine WE.f9 ?_
     refine WE.f9 ?_
     refine WE.meet (_, _, _, _, _, _) ?_ ⟨rfl, rfl, rfl, rfl, trivial⟩ (List.Perm.refl _)
     try dsimp only
     exact ⟨ho2, hY2, he2, ho13, ho14⟩
  ·rintro ⟨lv2, L2, Y2, e2, o13, o14⟩ hp
   try dsimp only at hp
   obtain ⟨ho2, hY2, he2, ho13, ho14⟩ := hp
   show WC _ _ _ _ _ _ ([(9, Pt o9 0), (13, Pt o13 0), (14, Pt o14 0), (15, e2)]) ([CS K.cb lv2 K.stop K.fail, L2, KB K.kb (Tr K.stop ids).2, X, Y2, [(sb, .cells #[.pointer none, .pointer none, NR] 208 (0, 0))], [(o9, Obj.cells #[.map none] 59 (0, 0))], [(o13, Obj.cells #[.nilIface] 127 (0, 0))], [(o14, Obj.cells #[.map none] 59 (0, 0))], R0])
   refine WC.seq ?_
   refine WC.f8 ?_
   refine WC.f8 ?_
   refine WC.cat ?_
   refine WC.gate 5 (([(o13, Obj.cells #[.nilIface] 127 (0, 0))] ++ [(o14, Obj.cells #[.map none] 59 (0, 0))])) (by kernel_rfl) ?_
   refine WG.q 0 [] rfl (.head _) (fun w0 => oq_fieldAddr fld127_0 rfl) rfl rfl rfl ?_
   refine WG.q 1 [] rfl (.head _) (fun w0 => oq_load flat20 rfl (.head _) (List.mem_append_left _ (List.mem_singleton.2 rfl)) rfl) rfl rfl rfl ?_
   refine WG.q 2 [] rfl (.head _) (fun w0 => oq_loadS [_] agg59 ty59 rfl (.head _) (List.mem_append_right _ (List.mem_singleton.2 rfl)) rfl rfl) rfl rfl rfl ?_
   refine WG.p 3 rfl (.inr (.head _)) (fun w0 => oq_move rfl) rfl rfl rfl ?_
   refine WG.q 4 [] rfl (.head _) (fun w0 => oq_assign rfl) rfl rfl rfl ?_
   refine WG.step (i := 5) (by kernel_rfl) rfl ?_
   refine WL.f7 ?_
   refine WL.storeS #[_] ty59 rfl rfl rfl rfl (Nat.le_of_ble_eq_true rfl) rfl rfl ?_
   refine WL.nil ?_
   refine WE.toG0 (by kernel_rfl) ?_
   refine WG.p 6 rfl (.inl (by kernel_rfl)) (fun w0 => oq_assign rfl) rfl rfl rfl ?_
   refine WG.done (by kernel_rfl) ?_
   refine WE.then_normal (WC.sub (fr' := [(8, _), (9, _), (10, _)]) ?_ ⟨rfl, rfl, rfl, trivial⟩)
   refine WC.ret (WE.then_ret ?_)
   refine WE.endDW [_, _, _, _, _, _] (.inl rfl) (rs3 Tryz.results168 (rv_tmp rfl) (rv_cellS [_] agg59 ty59 rfl (.head _) (List.mem_singleton.2 rfl) rfl rfl) (rv_tmp rfl)) (dr_lose ho9 (dr_forget (fresh_cat (fresh1 ho13) (fresh1 ho14)) (dr_f6 (dr_f5 (dr_f6 (dr_f6 (dr_f6 (dr_f6 (dr_f6 dr_refl))))))))) ?_
   exact ⟨_, _, _, _, _, rfl, rfl, ho2, hY2, he2, fun b o h => by simp only [List.mem_singleton] at h; injection h⟩
 ·
  try simp only [Z1, Z2, Z3, Z4, Z5, Z6, Z7, Z8, Z9, Z0] at q3
  simp at q3
theorem stepC_1 (base sb b3 : Nat) (K : KE) (X Y : Hp) (ids : List (List UInt8)) (hk : TypeId) (hv : Value) (hY : ∀ b o, (b, o) ∈ Y → base ≤ b) (hd : HD base K "Handle" .nilIface X Y (.iface hk hv) .nilIface ids) (x y : Nd) (r A1 : List Nd) (h : x :: r = A1 ++ [y]) (hX3 : (b3, Obj.cells #[Pt K.cb 0] 54 (0, 0)) ∈ X) (hr : ∀ z ∈ x :: r, Okn 1 b3 X z ∧ z.id.length ≤ 100000) (hfr : ∀ z ∈ x :: r, base ≤ z.b) (hsb : base ≤ sb) (l : List (List UInt8)) (lv : Value) (L : Hp) (ho : OwL base lv L l) (hl : l.length + 2 * (x.id :: (r.map Nd.id ++ ids)).length ≤ 100000) : FnW Tryz.prog 168 [Pt sb 0, CTX, .nilIface, .iface hk hv] base [CS K.cb lv K.stop K.fail, L, KB K.kb false, X, [(sb, .cells #[Pt x.b 0, Pt y.b 0, NR] 208 (0, 0))], [(y.b, Obj.cells #[.nilIface, wv 235 y] 210 (0, 0))], ch 206 210 235 A1 (.iface 206 (Pt y.b 0)), Y] (CR base K X l (x.id :: (r.map Nd.id ++ ids)) .nilIface) := by
 refine FnW.enter (n := 71) Tryz.func168 rfl rfl fun w0 R0 hbase => ?_
 subst hbase
 show WC _ _ _ _ _ _ _ ([CS K.cb lv K.stop K.fail, L, KB K.kb false, X, [(sb, .cells #[Pt x.b 0, Pt y.b 0, NR] 208 (0, 0))], [(y.b, Obj.cells #[.nilIface, wv 235 y] 210 (0, 0))], ch 206 210 235 A1 (.iface 206 (Pt y.b 0)), Y, R0])
 refine WC.sub (fr' := [(0, _), (1, _), (2, _), (3, _)]) ?_ ⟨rfl, rfl, rfl, rfl, trivial⟩
 refine WC.seq (WC.region ?_)
 refine WL.q (oq_assign rfl) rfl rfl rfl ?_
 refine WL.alloc ty59 rfl rfl fun o9 ho9 => ?_
 refine WL.q (oq_assign rfl) rfl rfl rfl ?_
 refine WL.nil (WE.then_normal (WC.sub (fr' := [(0, _), (1, _), (2, _), (3, _), (9, _)]) ?_ ⟨rfl, rfl, rfl, rfl, rfl, trivial⟩))
 refine WC.seq (WC.region ?_)
 refine WL.q (oq_move rfl) rfl rfl rfl ?_
 refine WL.q (oq_move rfl) rfl rfl rfl ?_
 refine WL.q (oq_nilCheck rfl) rfl rfl rfl ?_
 refine WL.q (oq_fieldAddr fld208_2 rfl) rfl rfl rfl ?_
 refine WL.q (oq_load flat72 rfl (.tail _ (.tail _ (.tail _ (.tail _ (.tail _ (.head _)))))) (List.mem_singleton.2 rfl) rfl) rfl rfl rfl ?_
 refine WL.qc (oq_callv0 (nr0) call28 rfl rfl) rfl rfl rfl ?_
 refine WL.q (oq_build #[_, _] str124 ty124 rfl rfl) rfl rfl rfl ?_
 refine WL.alloc ty124 rfl rfl fun o11 ho11 => ?_
 refine WL.storeS #[_, _] ty124 rfl rfl rfl rfl (Nat.le_of_ble_eq_true rfl) rfl rfl ?_
 refine WL.nil (WE.then_normal (WC.sub (fr' := [(0, _), (1, _), (3, _), (9, _), (11, _)]) ?_ ⟨rfl, rfl, rfl, rfl, rfl, trivial⟩))
 refine WC.seq (WC.region ?_)
 refine WL.q (oq_move rfl) rfl rfl rfl ?_
 refine WL.q (oq_build #[_] str275 ty275 rfl rfl) rfl rfl rfl ?_
 refine WL.box rfl rfl rfl fun w hw => ?_
 refine WL.q (oq_assign rfl) rfl rfl rfl ?_
 refine WL.nil (WE.then_normal (WC.sub (fr' := [(0, _), (1, _), (9, _), (11, _), (12, _)]) ?_ ⟨rfl, rfl, rfl, rfl, rfl, trivial⟩))
 refine WC.seq (WC.seq (WC.region ?_))
 refine WL.q (oq_move rfl) rfl rfl rfl ?_
 refine WL.q (oq_nilCheck rfl) rfl rfl rfl ?_
 refine WL.q (oq_fieldAddr fld208_0 rfl) rfl rfl rfl ?_
 refine WL.q (oq_load flat206 rfl (.tail _ (.tail _ (.tail _ (.tail _ (.tail _ (.tail _ (.tail _ (.head _)))))))) (List.mem_singleton.2 rfl) rfl) rfl rfl rfl ?_
 refine WL.q (oq_peql Tryz.underlying206 rfl rfl) rfl rfl rfl ?_
 refine WL.nil (WE.then_normal (WC.sub (fr' := [(0, _), (1, _), (9, _), (11, _), (12, _), (31, _)]) ?_ ⟨rfl, rfl, rfl, rfl, rfl, rfl, trivial⟩))
 refine WC.cond rfl (fun q3 => ?_) (fun q3 => ?_)
 ·
  try simp only [Z1, Z2, Z3, Z4, Z5, Z6, Z7, Z8, Z9, Z0] at q3
  simp at q3
 ·
  try simp only [Z1, Z2, Z3, Z4, Z5, Z6, Z7, Z8, Z9, Z0] at q3
  refine WC.skip (WE.then_normal (WC.sub (fr' := [(0, _), (1, _), (9, _), (11, _), (12, _)]) ?_ ⟨rfl, rfl, rfl, rfl, rfl, trivial⟩))
  refine WC.seq (WC.region ?_)
  refine WL.q (oq_move rfl) rfl rfl rfl ?_
  refine WL.q (oq_nilCheck rfl) rfl rfl rfl ?_
  refine WL.q (oq_fieldAddr fld208_1 rfl) rfl rfl rfl ?_
  refine WL.q (oq_load flat206 rfl (.tail _ (.tail _ (.tail _ (.tail _ (.tail _ (.tail _ (.tail _ (.head _)))))))) (List.mem_singleton.2 rfl) rfl) rfl rfl rfl ?_
  refine WL.q (oq_move rfl) rfl rfl rfl ?_
  refine WL.q (oq_makeI conc274 rfl) rfl rfl rfl ?_
  refine WL.q (oq_nilCheck rfl) rfl rfl rfl ?_
  refine WL.q (oq_fieldAddr fld210_0 rfl) rfl rfl rfl ?_
  refine WL.f8 ?_
  refine WL.store1 #[_, _] ty126 rfl rfl (by first | rfl | exact OwS.one one_) (Nat.lt_of_lt_of_le (Nat.lt_succ_self _) (Nat.le_of_ble_eq_true rfl)) rfl rfl ?_
  refine WL.nil (WE.then_normal (WC.sub (fr' := [(0, _), (1, _), (9, _), (11, _)]) ?_ ⟨rfl, rfl, rfl, rfl, trivial⟩))
  refine WC.cut (ι := Value × Hp × Hp × Value × Nat) (fun i_ => (fun (lv2 : Value) (L2 : Hp) (Y2 : Hp) (e2 : Value) (o16 : Nat) => [(9, Pt o9 0), (10, e2), (16, Pt o16 0)]) i_.1 i_.2.1 i_.2.2.1 i_.2.2.2.1 i_.2.2.2.2) (fun i_ => (fun (lv2 : Value) (L2 : Hp) (Y2 : Hp) (e2 : Value) (o16 : Nat) => [CS K.cb lv2 K.stop K.fail, L2, KB K.kb (Tr K.stop (x.id :: (r.map Nd.id ++ ids))).2, X, Y2, [(o9, Obj.cells #[.map none] 59 (0, 0))], [(o16, Obj.cells #[.nilIface] 127 (0, 0))], R0]) i_.1 i_.2.1 i_.2.2.1 i_.2.2.2.1 i_.2.2.2.2) (fun i_ => (fun (lv2 : Value) (L2 : Hp) (Y2 : Hp) (e2 : Value) (o16 : Nat) => OwL w0.heap.size lv2 L2 (l ++ (Tr K.stop (x.id :: (r.map Nd.id ++ ids))).1) ∧ (∀ b o, (b, o) ∈ Y2 → w0.heap.size ≤ b) ∧ ErrOk e2 (!(Tr K.stop (x.id :: (r.map Nd.id ++ ids))).2) K.fail ∧ w0.heap.size ≤ o16) i_.1 i_.2.1 i_.2.2.1 i_.2.2.2.1 i_.2.2.2.2) ?_ ?_
  ·
   refine WC.f10 ?_
   refine WC.f3 ?_
   refine WC.f3 ?_
   refine WC.f10 ?_
   refine WC.f4 ?_
   refine WC.f10 ?_
   refine WC.reg (regY (c := ch 206 210 235 (x :: r) (.iface 274 (Pt w 0))) (.of_eq (by rw [h, ch_app]; rfl))) ?_
   have hY0 : ∀ b o, (b, o) ∈ ([(sb, .cells #[Pt x.b 0, Pt y.b 0, NR] 208 (0, 0))] ++ (ch 206 210 235 (x :: r) (.iface 274 (Pt w 0)) ++ ([(w, Obj.cells #[.iface hk hv] 275 (0, 0))] ++ ([(o11, Obj.cells #[.nilIface, .nilIface] 124 (0, 0))] ++ Y))) : Hp) → w0.heap.size ≤ b := fresh_cat (fresh1 hsb) (fresh_cat (ch_fresh hfr) (fresh_cat (fresh1 hw) (fresh_cat (fresh1 ho11) hY)))
   have hdY := (((hd.frame [(o11, Obj.cells #[.nilIface, .nilIface] 124 (0, 0))] (fresh1 ho11)).frame [(w, Obj.cells #[.iface hk hv] 275 (0, 0))] (fresh1 hw)).frame (ch 206 210 235 (x :: r) (.iface 274 (Pt w 0))) (ch_fresh hfr)).frame [(sb, .cells #[Pt x.b 0, Pt y.b 0, NR] 208 (0, 0))] (fresh1 hsb)
   have hW := wrd1 hY0 hdY (List.mem_append_right _ (List.mem_append_right _ (List.mem_append_left _ (List.mem_singleton.2 rfl))))
   have hH := head1 hX3 hY0 hW x r hr (fun z hz => List.mem_append_right _ (List.mem_append_left _ hz))
   refine WC.gate 8 ([(sb, .cells #[Pt x.b 0, Pt y.b 0, NR] 208 (0, 0))] ++ (ch 206 210 235 (x :: r) (.iface 274 (Pt w 0)) ++ ([(w, Obj.cells #[.iface hk hv] 275 (0, 0))] ++ ([(o11, Obj.cells #[.nilIface, .nilIface] 124 (0, 0))] ++ Y)))) (by kernel_rfl) ?_
   refine WG.q 0 [5, 4, 3, 2, 1] rfl (.head _) (fun w0 => oq_move rfl) rfl rfl rfl ?_
   refine WG.q 1 [5, 4, 3, 2] rfl (.head _) (fun w0 => oq_nilCheck rfl) rfl rfl rfl ?_
   refine WG.q 2 [5, 4, 3] rfl (.head _) (fun w0 => oq_fieldAddr fld208_0 rfl) rfl rfl rfl ?_
   refine WG.q 3 [5, 4] rfl (.head _) (fun w0 => oq_load flat206 rfl (.head _) (List.mem_append_left _ (List.mem_singleton.2 rfl)) rfl) rfl rfl rfl ?_
   refine WG.q 4 [5] rfl (.head _) (fun w0 => oq_nilCheck rfl) rfl rfl rfl ?_
   refine WG.q 5 [] rfl (.head _) (fun w0 => oq_loadS [_, _] agg210 ty210 rfl (.head _) (List.mem_append_right _ (List.mem_append_left _ List.mem_cons_self)) rfl rfl) rfl rfl rfl ?_
   refine WG.q 6 [] rfl (.head _) (fun w0 => oq_move rfl) rfl rfl rfl ?_
   refine WG.q 7 [] rfl (.head _) (fun w0 => oq_loadS [_, _] agg124 ty124 rfl (.head _) (List.mem_append_right _ (List.mem_append_right _ (List.mem_append_right _ (List.mem_append_left _ (List.mem_singleton.2 rfl))))) rfl rfl) rfl rfl rfl ?_
   refine WG.fork2 (i := 8) (j := 13) (by kernel_rfl) rfl rfl ?_ ?_
   ·
    refine WL.f5 ?_
    refine WL.f5 ?_
    refine WL.f5 ?_
    refine WL.f5 ?_
    refine WL.callW5 (hH l lv L ho hl) call150 rfl rfl rfl fun v7_8 Hs7_8 hR7_8 => ?_
    obtain ⟨lv2, L2, Y2, e2, rfl, rfl, ho2, hY2, he2⟩ := hR7_8
    refine WL.to5 ?_
    refine WL.nil ?_
    refine WE.toG0 (by kernel_rfl) ?_
    refine WG.p 9 rfl (.inl (by kernel_rfl)) (fun w0 => oq_move rfl) rfl rfl rfl ?_
    refine WG.p 10 rfl (.inl (by kernel_rfl)) (fun w0 => oq_extract rfl rfl) rfl rfl rfl ?_
    refine WG.p 11 rfl (.inl (by kernel_rfl)) (fun w0 => oq_extract rfl rfl) rfl rfl rfl ?_
    refine WG.p 12 rfl (.inl (by kernel_rfl)) (fun w0 => oq_extract rfl rfl) rfl rfl rfl ?_
    refine WG.step (i := 13) (by kernel_rfl) rfl ?_
    refine WL.alloc ty127 rfl rfl fun o16 ho16 => ?_
    refine WL.nil ?_
    refine WE.toG0 (by kernel_rfl) ?_
    refine WG.step (i := 14) (by kernel_rfl) rfl ?_
    refine WL.storeS #[_] ty127 rfl rfl rfl rfl (Nat.le_of_ble_eq_true rfl) rfl rfl ?_
    refine WL.nil ?_
    refine WE.toG0 (by kernel_rfl) ?_
    refine WG.step (i := 15) (by kernel_rfl) rfl ?_
    refine WL.f6 ?_
    refine WL.storeS #[_] ty59 rfl rfl rfl rfl (Nat.le_of_ble_eq_true rfl) rfl rfl ?_
    refine WL.nil ?_
    refine WE.toG0 (by kernel_rfl) ?_
    refine WG.p 16 rfl (.inl (by kernel_rfl)) (fun w0 => oq_assign rfl) rfl rfl rfl ?_
    refine WG.done (by kernel_rfl) ?_
    refine WE.f7 ?_
    refine WE.f2 ?_
    refine WE.f2 ?_
    refine WE.f7 ?_
    refine WE.f7 ?_
    refine WE.f7 ?_
    refine WE.f7 ?_
    refine WE.f7 ?_
    refine WE.meet (_, _, _, _, _) ?_ ⟨rfl, rfl, rfl, trivial⟩ (List.Perm.refl _)
    try dsimp only
    exact ⟨ho2, hY2, he2, ho16⟩
   ·
    refine WL.alloc ty127 rfl rfl fun o16 ho16 => ?_
    refine WL.nil ?_
    refine WE.toG (.tail _ (.head _)) ?_
    refine WG.step (i := 8) (by kernel_rfl) rfl ?_
    refine WL.f1 ?_
    refine WL.f6 ?_
    refine WL.f6 ?_
    refine WL.f6 ?_
    refine WL.f6 ?_
    refine WL.callW5 (hH l lv L ho hl) call150 rfl rfl rfl fun v7_8 Hs7_8 hR7_8 => ?_
    obtain ⟨lv2, L2, Y2, e2, rfl, rfl, ho2, hY2, he2⟩ := hR7_8
    refine WL.to5 ?_
    refine WL.nil ?_
    refine WE.toG0 (by kernel_rfl) ?_
    refine WG.p 9 rfl (.inl (by kernel_rfl)) (fun w0 => oq_move rfl) rfl rfl rfl ?_
    refine WG.p 10 rfl (.inl (by kernel_rfl)) (fun w0 => oq_extract rfl rfl) rfl rfl rfl ?_
    refine WG.p 11 rfl (.inl (by kernel_rfl)) (fun w0 => oq_extract rfl rfl) rfl rfl rfl ?_
    refine WG.p 12 rfl (.inl (by kernel_rfl)) (fun w0 => oq_extract rfl rfl) rfl rfl rfl ?_
    refine WG.step (i := 14) (by kernel_rfl) rfl ?_
    refine WL.f5 ?_
    refine WL.storeS #[_] ty127 rfl rfl rfl rfl (Nat.le_of_ble_eq_true rfl) rfl rfl ?_
    refine WL.nil ?_
    refine WE.toG0 (by kernel_rfl) ?_
    refine WG.step (i := 15) (by kernel_rfl) rfl ?_
    refine WL.f6 ?_
    refine WL.storeS #[_] ty59 rfl rfl rfl rfl (Nat.le_of_ble_eq_true rfl) rfl rfl ?_
    refine WL.nil ?_
    refine WE.toG0 (by kernel_rfl) ?_
    refine WG.p 16 rfl (.inl (by kernel_rfl)) (fun w0 => oq_assign rfl) rfl rfl rfl ?_
    refine WG.done (by kernel_rfl) ?_
    refine WE.f7 ?_
    refine WE.f2 ?_
    refine WE.f2 ?_
    refine WE.f7 ?_
    refine WE.f7 ?_
    refine WE.f7 ?_
    refine WE.f7 ?_
    refine WE.f7 ?_
    refine WE.meet (_, _, _, _, _) ?_ ⟨rfl, rfl, rfl, trivial⟩ (List.Perm.refl _)
    try dsimp only
    exact ⟨ho2, hY2, he2, ho16⟩
  ·rintro ⟨lv2, L2, Y2, e2, o16⟩ hp
   try dsimp only at hp
   obtain ⟨ho2, hY2, he2, ho16⟩ := hp
   show WC _ _ _ _ _ _ ([(9, Pt o9 0), (10, e2), (16, Pt o16 0)]) ([CS K.cb lv2 K.stop K.fail, L2, KB K.kb (Tr K.stop (x.id :: (r.map Nd.id ++ ids))).2, X, Y2, [(o9, Obj.cells #[.map none] 59 (0, 0))], [(o16, Obj.cells #[.nilIface] 127 (0, 0))], R0])
   refine WC.seq ?_
   refine WC.gate 5 ([(o16, Obj.cells #[.nilIface] 127 (0, 0))]) (by kernel_rfl) ?_
   refine WG.q 0 [] rfl (.tail _ (.tail _ (.tail _ (.tail _ (.tail _ (.tail _ (.head _))))))) (fun w0 => oq_fieldAddr fld127_0 rfl) rfl rfl rfl ?_
   refine WG.q 1 [] rfl (.tail _ (.tail _ (.tail _ (.tail _ (.tail _ (.tail _ (.head _))))))) (fun w0 => oq_load flat20 rfl (.head _) (List.mem_singleton.2 rfl) rfl) rfl rfl rfl ?_
   refine WG.p 3 rfl (.inr (.tail _ (.tail _ (.tail _ (.tail _ (.tail _ (.tail _ (.head _)))))))) (fun w0 => oq_move rfl) rfl rfl rfl ?_
   refine WG.q 4 [] rfl (.tail _ (.tail _ (.tail _ (.tail _ (.tail _ (.tail _ (.head _))))))) (fun w0 => oq_assign rfl) rfl rfl rfl ?_
   refine WG.step (i := 2) (by kernel_rfl) rfl ?_
   refine WL.q (oq_loadS [_] agg59 ty59 rfl (.tail _ (.tail _ (.tail _ (.tail _ (.tail _ (.head _)))))) (List.mem_singleton.2 rfl) rfl rfl) rfl rfl rfl ?_
   refine WL.nil ?_
   refine WE.toG (.tail _ (.tail _ (.tail _ (.tail _ (.tail _ (.tail _ (.head _))))))) ?_
   refine WG.step (i := 5) (by kernel_rfl) rfl ?_
   refine WL.f5 ?_
   refine WL.storeS #[_] ty59 rfl rfl rfl rfl (Nat.le_of_ble_eq_true rfl) rfl rfl ?_
   refine WL.nil ?_
   refine WE.toG0 (by kernel_rfl) ?_
   refine WG.p 6 rfl (.inl (by kernel_rfl)) (fun w0 => oq_assign rfl) rfl rfl rfl ?_
   refine WG.done (by kernel_rfl) ?_
   refine WE.then_normal (WC.sub (fr' := [(8, _), (9, _), (10, _)]) ?_ ⟨rfl, rfl, rfl, trivial⟩)
   refine WC.ret ?_
   refine WE.endDW [_, _, _, _, _] (.inl rfl) (rs3 Tryz.results168 (rv_tmp rfl) (rv_cellS [_] agg59 ty59 rfl (.head _) (List.mem_singleton.2 rfl) rfl rfl) (rv_tmp rfl)) (dr_lose ho9 (dr_f5 (dr_lose ho16 dr_refl))) ?_
   exact crSame (ov' := .nilIface) ho2 hY2 he2
theorem step1 {base sb b3 : Nat} {K : KE} {X Y : Hp} {ids : List (List UInt8)} {hk : TypeId} {hv : Value} (hY : ∀ b o, (b, o) ∈ Y → base ≤ b) (hd : HD base K "Handle" .nilIface X Y (.iface hk hv) .nilIface ids) (hX3 : (b3, Obj.cells #[Pt K.cb 0] 54 (0, 0)) ∈ X) (its : List Nd)
  (hr : ∀ z ∈ its, Okn 1 b3 X z ∧ z.id.length ≤ 100000) (hfr : ∀ z ∈ its, base ≤ z.b) (hsb : base ≤ sb) : HC base K 168 [Pt sb 0, CTX, .nilIface, .iface hk hv] X (stg 1 sb NR its ++ Y) .nilIface (its.map Nd.id ++ ids) := by
 intro l lv L ho hl
 cases its with
 | nil =>
  refine (step0_1 base sb K X Y ids hk hv hY hd l lv L ho hl).reg (by simp [stg, ch, scells, hdp, lastp]; rfl) ?_
  rintro v Hs ⟨lv2, L2, Y2, e2, s, rfl, rfl, h1, h2, h3, h4⟩
  exact ⟨_, ⟨lv2, L2, s ++ Y2, e2, rfl, rfl, h1, fresh_cat (fun b o hb => by rw [h4 b o hb]; exact hsb) h2, h3⟩, by simp⟩
 | cons x r =>
  obtain h | ⟨A1, y, h⟩ := nd_ends (x :: r)
  ·cases h
  ·have hl2 : lastp (x :: r) = Pt y.b 0 := by rw [h, lastp_snoc]
   have e : stg 1 sb NR (x :: r) = [(sb, .cells #[Pt x.b 0, Pt y.b 0, NR] 208 (0, 0))] ++ (ch 206 210 235 A1 (.iface 206 (Pt y.b 0)) ++ [(y.b, Obj.cells #[.nilIface, wv 235 y] 210 (0, 0))]) := by
    show [(sb, Obj.cells (scells 1 (hdp (x :: r)) (lastp (x :: r)) NR) _ _)] ++ ch _ _ _ (x :: r) _ = _
    rw [hl2]
    congr 1
    rw [h, ch_app]; rfl
   refine (stepC_1 base sb b3 K X Y ids hk hv hY hd x y r A1 h hX3 hr hfr hsb l lv L ho hl).reg ?_ (fun v Hs hh => ⟨Hs, hh, List.Perm.refl _⟩)
   rw [e]
   exact regI
theorem invP_dec2 : InvP2 Tryz.prog 212 216 "HandleBuild" 151 := invp2_of (mrow_of Tryz.underlying212 call151 (by kernel_rfl))
theorem invP_wr2 : InvP2 Tryz.prog 276 277 "HandleBuild" 171 := invp2_of (mrow_of Tryz.underlying276 call171 (by kernel_rfl))
theorem node2 {base : Nat} {K : KE} {X Y : Hp} {b3 : Nat} {x : Nd} {h : Value} {ids : List (List UInt8)} (hX3 : (b3, Obj.cells #[Pt K.cb 0] 54 (0, 0)) ∈ X) (hx : Okn 2 b3 X x) (hi : x.id.length ≤ 100000) (hY : ∀ b o, (b, o) ∈ Y → base ≤ b) (hd : HD base K "HandleBuild" (.agg #[.nilIface]) X Y h (.agg #[.nilIface]) ids) :
  HC base K 151 [.agg #[h, wv 239 x], CTX, .agg #[.nilIface]] X Y (.agg #[.nilIface]) (x.id :: ids) := by
 obtain ⟨q, hq, hXq⟩ := hx
 unfold wv
 rw [hq]
 exact dech2 base K X Y b3 q x.id _ h hY (mfh2 base K X Y b3 q x.id _ h hY (inner2 base K b3 q x.id ids X Y h hi hX3 hXq hY hd))
theorem chain2 {base : Nat} {K : KE} {X Y : Hp} {b3 : Nat} {e : Value} {ids : List (List UInt8)} (hX3 : (b3, Obj.cells #[Pt K.cb 0] 54 (0, 0)) ∈ X) (hY : ∀ b o, (b, o) ∈ Y → base ≤ b) (hd : HD base K "HandleBuild" (.agg #[.nilIface]) X Y e (.agg #[.nilIface]) ids) :
  ∀ (r : List Nd), (∀ x ∈ r, Okn 2 b3 X x ∧ x.id.length ≤ 100000) → (∀ z, z ∈ ch 212 216 239 r e → z ∈ Y) → HD base K "HandleBuild" (.agg #[.nilIface]) X Y (nextOf 212 r e) (.agg #[.nilIface]) (r.map Nd.id ++ ids)
 | [], _, _ => hd
 | x :: r, hr, hm => by
  obtain ⟨h1, h2⟩ := hr x List.mem_cons_self
  have ih := chain2 hX3 hY hd r (fun y hy => hr y (List.mem_cons_of_mem _ hy)) (fun z hz => hm z (List.mem_cons_of_mem _ hz))
  exact ⟨151, _, inv_of_p2 (cells := [nextOf 212 r e, wv 239 x]) invP_dec2 agg216 ty216 rfl (hm _ List.mem_cons_self), node2 hX3 h1 h2 hY ih⟩
theorem head2 {base : Nat} {K : KE} {X Y : Hp} {b3 : Nat} {e : Value} {ids : List (List UInt8)} (hX3 : (b3, Obj.cells #[Pt K.cb 0] 54 (0, 0)) ∈ X) (hY : ∀ b o, (b, o) ∈ Y → base ≤ b) (hd : HD base K "HandleBuild" (.agg #[.nilIface]) X Y e (.agg #[.nilIface]) ids)
  (x : Nd) (r : List Nd) (hr : ∀ y ∈ x :: r, Okn 2 b3 X y ∧ y.id.length ≤ 100000) (hm : ∀ z, z ∈ ch 212 216 239 (x :: r) e → z ∈ Y) : HC base K 151 [.agg #[nextOf 212 r e, wv 239 x], CTX, .agg #[.nilIface]] X Y (.agg #[.nilIface]) (x.id :: (r.map Nd.id ++ ids)) :=
 node2 hX3 (hr x List.mem_cons_self).1 (hr x List.mem_cons_self).2 hY (chain2 hX3 hY hd r (fun y hy => hr y (List.mem_cons_of_mem _ hy)) (fun z hz => hm z (List.mem_cons_of_mem _ hz)))
theorem wrd2 {base : Nat} {K : KE} {X Y : Hp} {b : Nat} {h : Value} {ids : List (List UInt8)} (hY : ∀ b o, (b, o) ∈ Y → base ≤ b) (hd : HD base K "Handle" .nilIface X Y h .nilIface ids) (hb : (b, Obj.cells #[h] 277 (0, 0)) ∈ Y) : HD base K "HandleBuild" (.agg #[.nilIface]) X Y (.iface 276 (Pt b 0)) (.agg #[.nilIface]) ids :=
 ⟨171, _, inv_of_p2 (cells := [h]) invP_wr2 agg277 ty277 rfl hb, wrh2 base K X Y ids h hY hd⟩
theorem step0_2 (base sb : Nat) (K : KE) (X Y : Hp) (ids : List (List UInt8)) (hk : TypeId) (hv : Value) (hY : ∀ b o, (b, o) ∈ Y → base ≤ b) (hd : HD base K "Handle" .nilIface X Y (.iface hk hv) .nilIface ids) (l : List (List UInt8)) (lv : Value) (L : Hp) (ho : OwL base lv L l) (hl : l.length + 2 * ids.length ≤ 100000) : FnW Tryz.prog 170 [Pt sb 0, CTX, .nilIface, .iface hk hv] base [CS K.cb lv K.stop K.fail, L, KB K.kb false, X, [(sb, .cells #[.pointer none, .pointer none] 214 (0, 0))], Y] (fun v Hs => ∃ lv2 L2 Y2 e2 s, Hs = [CS K.cb lv2 K.stop K.fail, L2, KB K.kb (Tr K.stop ids).2, X, s, Y2] ∧ v = .tuple #[.nilIface, META, e2] ∧ OwL base lv2 L2 (l ++ (Tr K.stop ids).1) ∧ (∀ b o, (b, o) ∈ Y2 → base ≤ b) ∧ ErrOk e2 (!(Tr K.stop ids).2) K.fail ∧ ∀ b o, (b, o) ∈ s → b = sb) := by
 refine FnW.enter (n := 66) Tryz.func170 rfl rfl fun w0 R0 hbase => ?_
 subst hbase
 show WC _ _ _ _ _ _ _ ([CS K.cb lv K.stop K.fail, L, KB K.kb false, X, [(sb, .cells #[.pointer none, .pointer none] 214 (0, 0))], Y, R0])
 refine WC.sub (fr' := [(0, _), (1, _), (2, _), (3, _)]) ?_ ⟨rfl, rfl, rfl, rfl, trivial⟩
 refine WC.seq (WC.region ?_)
 refine WL.q (oq_assign rfl) rfl rfl rfl ?_
 refine WL.alloc ty59 rfl rfl fun o9 ho9 => ?_
 refine WL.q (oq_assign rfl) rfl rfl rfl ?_
 refine WL.nil (WE.then_normal (WC.sub (fr' := [(0, _), (1, _), (2, _), (3, _), (9, _)]) ?_ ⟨rfl, rfl, rfl, rfl, rfl, trivial⟩))
 refine WC.seq (WC.region ?_)
 refine WL.q (oq_move rfl) rfl rfl rfl ?_
 refine WL.q (oq_build #[_] str143 ty143 rfl rfl) rfl rfl rfl ?_
 refine WL.alloc ty143 rfl rfl fun o11 ho11 => ?_
 refine WL.storeS #[_] ty143 rfl rfl rfl rfl (Nat.le_of_ble_eq_true rfl) rfl rfl ?_
 refine WL.nil (WE.then_normal (WC.sub (fr' := [(0, _), (1, _), (3, _), (9, _), (11, _)]) ?_ ⟨rfl, rfl, rfl, rfl, rfl, trivial⟩))
 refine WC.seq (WC.region ?_)
 refine WL.q (oq_move rfl) rfl rfl rfl ?_
 refine WL.q (oq_build #[_] str277 ty277 rfl rfl) rfl rfl rfl ?_
 refine WL.box rfl rfl rfl fun w hw => ?_
 refine WL.q (oq_assign rfl) rfl rfl rfl ?_
 refine WL.nil (WE.then_normal (WC.sub (fr' := [(0, _), (1, _), (9, _), (11, _), (12, _)]) ?_ ⟨rfl, rfl, rfl, rfl, rfl, trivial⟩))
 refine WC.seq (WC.seq (WC.region ?_))
 refine WL.q (oq_move rfl) rfl rfl rfl ?_
 refine WL.q (oq_nilCheck rfl) rfl rfl rfl ?_
 refine WL.q (oq_fieldAddr fld214_0 rfl) rfl rfl rfl ?_
 refine WL.q (oq_load flat212 rfl (.tail _ (.tail _ (.tail _ (.tail _ (.tail _ (.tail _ (.tail _ (.head _)))))))) (List.mem_singleton.2 rfl) rfl) rfl rfl rfl ?_
 refine WL.q (oq_peql Tryz.underlying212 rfl rfl) rfl rfl rfl ?_
 refine WL.nil (WE.then_normal (WC.sub (fr' := [(0, _), (1, _), (9, _), (11, _), (12, _), (26, _)]) ?_ ⟨rfl, rfl, rfl, rfl, rfl, rfl, trivial⟩))
 refine WC.cond rfl (fun q3 => ?_) (fun q3 => ?_)
 ·
  try simp only [Z1, Z2, Z3, Z4, Z5, Z6, Z7, Z8, Z9, Z0] at q3
  refine WC.cut (ι := Value × Hp × Hp × Value × Nat × Nat) (fun i_ => (fun (lv2 : Value) (L2 : Hp) (Y2 : Hp) (e2 : Value) (o13 : Nat) (o14 : Nat) => [(9, Pt o9 0), (13, Pt o13 0), (14, Pt o14 0), (15, e2)]) i_.1 i_.2.1 i_.2.2.1 i_.2.2.2.1 i_.2.2.2.2.1 i_.2.2.2.2.2) (fun i_ => (fun (lv2 : Value) (L2 : Hp) (Y2 : Hp) (e2 : Value) (o13 : Nat) (o14 : Nat) => [CS K.cb lv2 K.stop K.fail, L2, KB K.kb (Tr K.stop ids).2, X, Y2, [(sb, .cells #[.pointer none, .pointer none] 214 (0, 0))], [(o9, Obj.cells #[.map none] 59 (0, 0))], [(o13, Obj.cells #[.nilIface] 146 (0, 0))], [(o14, Obj.cells #[.map none] 59 (0, 0))], R0]) i_.1 i_.2.1 i_.2.2.1 i_.2.2.2.1 i_.2.2.2.2.1 i_.2.2.2.2.2) (fun i_ => (fun (lv2 : Value) (L2 : Hp) (Y2 : Hp) (e2 : Value) (o13 : Nat) (o14 : Nat) => OwL w0.heap.size lv2 L2 (l ++ (Tr K.stop ids).1) ∧ (∀ b o, (b, o) ∈ Y2 → w0.heap.size ≤ b) ∧ ErrOk e2 (!(Tr K.stop ids).2) K.fail ∧ w0.heap.size ≤ o13 ∧ w0.heap.size ≤ o14) i_.1 i_.2.1 i_.2.2.1 i_.2.2.2.1 i_.2.2.2.2.1 i_.2.2.2.2.2) ?_ ?_
  ·
   refine WC.f1 ?_
   refine WC.f1 ?_
   refine WC.cat ?_
   refine WC.gate 5 ([(w, Obj.cells #[.iface hk hv] 277 (0, 0))] ++ [(o11, Obj.cells #[.nilIface] 143 (0, 0))]) (by kernel_rfl) ?_
   refine WG.q 0 [2, 1] rfl (.head _) (fun w0 => oq_move rfl) rfl rfl rfl ?_
   refine WG.q 1 [2] rfl (.head _) (fun w0 => oq_nilCheck rfl) rfl rfl rfl ?_
   refine WG.q 2 [] rfl (.head _) (fun w0 => oq_loadS [_] agg277 ty277 rfl (.head _) (List.mem_append_left _ (List.mem_singleton.2 rfl)) rfl rfl) rfl rfl rfl ?_
   refine WG.q 3 [] rfl (.head _) (fun w0 => oq_move rfl) rfl rfl rfl ?_
   refine WG.q 4 [] rfl (.head _) (fun w0 => oq_loadS [_] agg143 ty143 rfl (.head _) (List.mem_append_right _ (List.mem_singleton.2 rfl)) rfl rfl) rfl rfl rfl ?_
   refine WG.fork3 (i := 5) (j := 10) (m := 11) (by kernel_rfl) rfl rfl rfl ?_ ?_ ?_
   ·
    refine WL.f7 ?_
    refine WL.f6 ?_
    refine WL.f6 ?_
    refine WL.f6 ?_
    refine WL.f6 ?_
    refine WL.callW5 (wrh2 _ K X Y ids _ hY hd l lv L ho hl) call171 rfl rfl rfl fun v4_5 Hs4_5 hR4_5 => ?_
    obtain ⟨lv2, L2, Y2, e2, rfl, rfl, ho2, hY2, he2⟩ := hR4_5
    refine WL.to5 ?_
    refine WL.nil ?_
    refine WE.toG0 (by kernel_rfl) ?_
    refine WG.p 6 rfl (.inl (by kernel_rfl)) (fun w0 => oq_move rfl) rfl rfl rfl ?_
    refine WG.p 7 rfl (.inl (by kernel_rfl)) (fun w0 => oq_extract rfl rfl) rfl rfl rfl ?_
    refine WG.p 8 rfl (.inl (by kernel_rfl)) (fun w0 => oq_extract rfl rfl) rfl rfl rfl ?_
    refine WG.p 9 rfl (.inl (by kernel_rfl)) (fun w0 => oq_extract rfl rfl) rfl rfl rfl ?_
    refine WG.fork2 (i := 10) (j := 11) (by kernel_rfl) rfl rfl ?_ ?_
    ·
     refine WL.alloc ty146 rfl rfl fun o13 ho13 => ?_
     refine WL.nil ?_
     refine WE.toG0 (by kernel_rfl) ?_
     refine WG.step (i := 11) (by kernel_rfl) rfl ?_
     refine WL.alloc ty59 rfl rfl fun o14 ho14 => ?_
     refine WL.nil ?_
     refine WE.toG0 (by kernel_rfl) ?_
     refine WG.step (i := 12) (by kernel_rfl) rfl ?_
     refine WL.f1 ?_
     refine WL.storeS #[_] ty146 rfl rfl rfl rfl (Nat.le_of_ble_eq_true rfl) rfl rfl ?_
     refine WL.nil ?_
     refine WE.toG0 (by kernel_rfl) ?_
     refine WG.step (i := 13) (by kernel_rfl) rfl ?_
     refine WL.f1 ?_
     refine WL.storeS #[_] ty59 rfl rfl rfl rfl (Nat.le_of_ble_eq_true rfl) rfl rfl ?_
     refine WL.nil ?_
     refine WE.toG0 (by kernel_rfl) ?_
     refine WG.p 14 rfl (.inl (by kernel_rfl)) (fun w0 => oq_assign rfl) rfl rfl rfl ?_
     refine WG.done (by kernel_rfl) ?_
     refine WE.f7 ?_
     refine WE.forget (fresh_cat (fresh1 hw) (fresh1 ho11)) ?_
     refine WE.f9 ?_
     refine WE.f1 ?_
     refine WE.f2 ?_
     refine WE.f8 ?_
     refine WE.f9 ?_
     refine WE.f9 ?_
     refine WE.f9 ?_
     refine WE.f9 ?_
     refine WE.f9 ?_
     refine WE.f9 ?_
     refine WE.meet (_, _, _, _, _, _) ?_ ⟨rfl, rfl, rfl, rfl, trivial⟩ (List.Perm.refl _)
     try dsimp only
     exact ⟨ho2, hY2, he2, ho13, ho14⟩
    ·
     refine WL.alloc ty59 rfl rfl fun o14 ho14 => ?_
     refine WL.nil ?_
     refine WE.toG0 (by kernel_rfl) ?_
     refine WG.step (i := 10) (by kernel_rfl) rfl ?_
     refine WL.alloc ty146 rfl rfl fun o13 ho13 => ?_
     refine WL.nil ?_
     refine WE.toG0 (by kernel_rfl) ?_
     refine WG.step (i := 12) (by kernel_rfl) rfl ?_
     refine WL.storeS #[_] ty146 rfl rfl rfl rfl (Nat.le_of_ble_eq_true rfl) rfl rfl ?_
     refine WL.nil ?_
     refine WE.toG0 (by kernel_rfl) ?_
     refine WG.step (i := 13) (by kernel_rfl) rfl ?_
     refine WL.f1 ?_
     refine WL.storeS #[_] ty59 rfl rfl rfl rfl (Nat.le_of_ble_eq_true rfl) rfl rfl ?_
     refine WL.nil ?_
     refine WE.toG0 (by kernel_rfl) ?_
     refine WG.p 14 rfl (.inl (by kernel_rfl)) (fun w0 => oq_assign rfl) rfl rfl rfl ?_
     refine WG.done (by kernel_rfl) ?_
     refine WE.f7 ?_
     refine WE.forget (fresh_cat (fresh1 hw) (fresh1 ho11)) ?_
     refine WE.f9 ?_
     refine WE.f1 ?_
     refine WE.f2 ?_
     refine WE.f8 ?_
     refine WE.f9 ?_
     refine WE.f9 ?_
     refine WE.f9 ?_
     refine WE.f9 ?_
     refine WE.f9 ?_
     refine WE.f9 ?_
     refine WE.meet (_, _, _, _, _, _) ?_ ⟨rfl, rfl, rfl, rfl, trivial⟩ (List.Perm.refl _)
     try dsimp only
     exact ⟨ho2, hY2, he2, ho13, ho14⟩
   ·
    refine WL.alloc ty146 rfl rfl fun o13 ho13 => ?_
    refine WL.nil ?_
    refine WE.toG (.tail _ (.head _)) ?_
    refine WG.fork2 (i := 5) (j := 11) (by kernel_rfl) rfl rfl ?_ ?_
    ·
     refine WL.f8 ?_
     refine WL.f7 ?_
     refine WL.f7 ?_
     refine WL.f7 ?_
     refine WL.f7 ?_
     refine WL.callW5 (wrh2 _ K X Y ids _ hY hd l lv L ho hl) call171 rfl rfl rfl fun v4_5 Hs4_5 hR4_5 => ?_
     obtain ⟨lv2, L2, Y2, e2, rfl, rfl, ho2, hY2, he2⟩ := hR4_5
     refine WL.to5 ?_
     refine WL.nil ?_
     refine WE.toG0 (by kernel_rfl) ?_
     refine WG.p 6 rfl (.inl (by kernel_rfl)) (fun w0 => oq_move rfl) rfl rfl rfl ?_
     refine WG.p 7 rfl (.inl (by kernel_rfl)) (fun w0 => oq_extract rfl rfl) rfl rfl rfl ?_
     refine WG.p 8 rfl (.inl (by kernel_rfl)) (fun w0 => oq_extract rfl rfl) rfl rfl rfl ?_
     refine WG.p 9 rfl (.inl (by kernel_rfl)) (fun w0 => oq_extract rfl rfl) rfl rfl rfl ?_
     refine WG.step (i := 11) (by kernel_rfl) rfl ?_
     refine WL.alloc ty59 rfl rfl fun o14 ho14 => ?_
     refine WL.nil ?_
     refine WE.toG0 (by kernel_rfl) ?_
     refine WG.step (i := 12) (by kernel_rfl) rfl ?_
     refine WL.f6 ?_
     refine WL.storeS #[_] ty146 rfl rfl rfl rfl (Nat.le_of_ble_eq_true rfl) rfl rfl ?_
     refine WL.nil ?_
     refine WE.toG0 (by kernel_rfl) ?_
     refine WG.step (i := 13) (by kernel_rfl) rfl ?_
     refine WL.f1 ?_
     refine WL.storeS #[_] ty59 rfl rfl rfl rfl (Nat.le_of_ble_eq_true rfl) rfl rfl ?_
     refine WL.nil ?_
     refine WE.toG0 (by kernel_rfl) ?_
     refine WG.p 14 rfl (.inl (by kernel_rfl)) (fun w0 => oq_assign rfl) rfl rfl rfl ?_
     refine WG.done (by kernel_rfl) ?_
     refine WE.f7 ?_
     refine WE.forget (fresh_cat (fresh1 hw) (fresh1 ho11)) ?_
     refine WE.f9 ?_
     refine WE.f1 ?_
     refine WE.f2 ?_
     refine WE.f8 ?_
     refine WE.f9 ?_
     refine WE.f9 ?_
     refine WE.f9 ?_
     refine WE.f9 ?_
     refine WE.f9 ?_
     refine WE.f9 ?_
     refine WE.meet (_, _, _, _, _, _) ?_ ⟨rfl, rfl, rfl, rfl, trivial⟩ (List.Perm.refl _)
     try dsimp only
     exact ⟨ho2, hY2, he2, ho13, ho14⟩
    ·
     refine WL.alloc ty59 rfl rfl fun o14 ho14 => ?_
     refine WL.nil ?_
     refine WE.toG (.tail _ (.tail _ (.head _))) ?_
     refine WG.step (i := 5) (by kernel_rfl) rfl ?_
     refine WL.f9 ?_
     refine WL.f8 ?_
     refine WL.f8 ?_
     refine WL.f8 ?_
     refine WL.f8 ?_
     refine WL.callW5 (wrh2 _ K X Y ids _ hY hd l lv L ho hl) call171 rfl rfl rfl fun v4_5 Hs4_5 hR4_5 => ?_
     obtain ⟨lv2, L2, Y2, e2, rfl, rfl, ho2, hY2, he2⟩ := hR4_5
     refine WL.to5 ?_
     refine WL.nil ?_
     refine WE.toG0 (by kernel_rfl) ?_
     refine WG.p 6 rfl (.inl (by kernel_rfl)) (fun w0 => oq_move rfl) rfl rfl rfl ?_
     refine WG.p 7 rfl (.inl (by kernel_rfl)) (fun w0 => oq_extract rfl rfl) rfl rfl rfl ?_
     refine WG.p 8 rfl (.inl (by kernel_rfl)) (fun w0 => oq_extract rfl rfl) rfl rfl rfl ?_
     refine WG.p 9 rfl (.inl (by kernel_rfl)) (fun w0 => oq_extract rfl rfl) rfl rfl rfl ?_
     refine WG.step (i := 12) (by kernel_rfl) rfl ?_
     refine WL.f6 ?_
     refine WL.storeS #[_] ty146 rfl rfl rfl rfl (Nat.le_of_ble_eq_true rfl) rfl rfl ?_
     refine WL.nil ?_
     refine WE.toG0 (by kernel_rfl) ?_
     refine WG.step (i := 13) (by kernel_rfl) rfl ?_
     refine WL.f6 ?_
     refine WL.storeS #[_] ty59 rfl rfl rfl rfl (Nat.le_of_ble_eq_true rfl) rfl rfl ?_
     refine WL.nil ?_
     refine WE.toG0 (by kernel_rfl) ?_
     refine WG.p 14 rfl (.inl (by kernel_rfl)) (fun w0 => oq_assign rfl) rfl rfl rfl ?_
     refine WG.done (by kernel_rfl) ?_
     refine WE.f7 ?_
     refine WE.forget (fresh_cat (fresh1 hw) (fresh1 ho11)) ?_
     refine WE.f9 ?_
     refine WE.f1 ?_
     refine WE.f2 ?_
     refine WE.f8 ?_
     refine WE.f9 ?_
     refine WE.f9 ?_
     refine WE.f9 ?_
     refine WE.f9 ?_
     refine WE.f9 ?_
     refine WE.f9 ?_
     refine WE.meet (_, _, _, _, _, _) ?_ ⟨rfl, rfl, rfl, rfl, trivial⟩ (List.Perm.refl _)
     try dsimp only
     exact ⟨ho2, hY2, he2, ho13, ho14⟩
   ·
    refine WL.alloc ty59 rfl rfl fun o14 ho14 => ?_
    refine WL.nil ?_
    refine WE.toG (.tail _ (.head _)) ?_
    refine WG.fork2 (i := 5) (j := 10) (by kernel_rfl) rfl rfl ?_ ?_
    ·
     refine WL.f8 ?_
     refine WL.f7 ?_
     refine WL.f7 ?_
     refine WL.f7 ?_
     refine WL.f7 ?_
     refine WL.callW5 (wrh2 _ K X Y ids _ hY hd l lv L ho hl) call171 rfl rfl rfl fun v4_5 Hs4_5 hR4_5 => ?_
     obtain ⟨lv2, L2, Y2, e2, rfl, rfl, ho2, hY2, he2⟩ := hR4_5
     refine WL.to5 ?_
     refine WL.nil ?_
     refine WE.toG0 (by kernel_rfl) ?_
     refine WG.p 6 rfl (.inl (by kernel_rfl)) (fun w0 => oq_move rfl) rfl rfl rfl ?_
     refine WG.p 7 rfl (.inl (by kernel_rfl)) (fun w0 => oq_extract rfl rfl) rfl rfl rfl ?_
     refine WG.p 8 rfl (.inl (by kernel_rfl)) (fun w0 => oq_extract rfl rfl) rfl rfl rfl ?_
     refine WG.p 9 rfl (.inl (by kernel_rfl)) (fun w0 => oq_extract rfl rfl) rfl rfl rfl ?_
     refine WG.step (i := 10) (by kernel_rfl) rfl ?_
     refine WL.alloc ty146 rfl rfl fun o13 ho13 => ?_
     refine WL.nil ?_
     refine WE.toG0 (by kernel_rfl) ?_
     refine WG.step (i := 12) (by kernel_rfl) rfl ?_
     refine WL.storeS #[_] ty146 rfl rfl rfl rfl (Nat.le_of_ble_eq_true rfl) rfl rfl ?_
     refine WL.nil ?_
     refine WE.toG0 (by kernel_rfl) ?_
     refine WG.step (i := 13) (by kernel_rfl) rfl ?_
     refine WL.f6 ?_
     refine WL.storeS #[_] ty59 rfl rfl rfl rfl (Nat.le_of_ble_eq_true rfl) rfl rfl ?_
     refine WL.nil ?_
     refine WE.toG0 (by kernel_rfl) ?_
     refine WG.p 14 rfl (.inl (by kernel_rfl)) (fun w0 => oq_assign rfl) rfl rfl rfl ?_
     refine WG.done (by kernel_rfl) ?_
     refine WE.f7 ?_
     refine WE.forget (fresh_cat (fresh1 hw) (fresh1 ho11)) ?_
     refine WE.f9 ?_
     refine WE.f1 ?_
     refine WE.f2 ?_
     refine WE.f8 ?_
     refine WE.f9 ?_
     refine WE.f9 ?_
     refine WE.f9 ?_
     refine WE.f9 ?_
     refine WE.f9 ?_
     refine WE.f9 ?_
     refine WE.meet (_, _, _, _, _, _) ?_ ⟨rfl, rfl, rfl, rfl, trivial⟩ (List.Perm.refl _)
     try dsimp only
     exact ⟨ho2, hY2, he2, ho13, ho14⟩
    ·
     refine WL.alloc ty146 rfl rfl fun o13 ho13 => ?_
     refine WL.nil ?_
     refine WE.toG (.tail _ (.tail _ (.head _))) ?_
     refine WG.step (i := 5) (by kernel_rfl) rfl ?_
     refine WL.f9 ?_
     refine WL.f8 ?_
     refine WL.f8 ?_
     refine WL.f8 ?_
     refine WL.f8 ?_
     refine WL.callW5 (wrh2 _ K X Y ids _ hY hd l lv L ho hl) call171 rfl rfl rfl fun v4_5 Hs4_5 hR4_5 => ?_
     obtain ⟨lv2, L2, Y2, e2, rfl, rfl, ho2, hY2, he2⟩ := hR4_5
     refine WL.to5 ?_
     refine WL.nil ?_
     refine WE.toG0 (by kernel_rfl) ?_
     refine WG.p 6 rfl (.inl (by kernel_rfl)) (fun w0 => oq_move rfl) rfl rfl rfl ?_
     refine WG.p 7 rfl (.inl (by kernel_rfl)) (fun w0 => oq_extract rfl rfl) rfl rfl rfl ?_
     refine WG.p 8 rfl (.inl (by kernel_rfl)) (fun w0 => oq_extract rfl rfl) rfl rfl rfl ?_
     refine WG.p 9 rfl (.inl (by kernel_rfl)) (fun w0 => oq_extract rfl rfl) rfl rfl rfl ?_
     refine WG.step (i := 12) (by kernel_rfl) rfl ?_
     refine WL.f5 ?_
     refine WL.storeS #[_] ty146 rfl rfl rfl rfl (Nat.le_of_ble_eq_true rfl) rfl rfl ?_
     refine WL.nil ?_
     refine WE.toG0 (by kernel_rfl) ?_
     refine WG.step (i := 13) (by kernel_rfl) rfl ?_
     refine WL.f6 ?_
     refine WL.storeS #[_] ty59 rfl rfl rfl rfl (Nat.le_of_ble_eq_true rfl) rfl rfl ?_
     refine WL.nil ?_
     refine WE.toG0 (by kernel_rfl) ?_
     refine WG.p 14 rfl (.inl (by kernel_rfl)) (fun w0 => oq_assign rfl) rfl rfl rfl ?_
     refine WG.done (by kernel_rfl) ?_
     refine WE.f7 ?_
     refine WE.forget (fresh_cat (fresh1 hw) (fresh1 ho11)) ?_
     refine WE.f9 ?_
     refine WE.f1 ?_
     refine WE.f2 ?_
     refine WE.f8 ?_
     refine WE.f9 ?_
     refine WE.f9 ?_
     refine WE.f9 ?_
     refine WE.f9 ?_
     refine WE.f9 ?_
     refine WE.f9 ?_
     refine WE.meet (_, _, _, _, _, _) ?_ ⟨rfl, rfl, rfl, rfl, trivial⟩ (List.Perm.refl _)
     try dsimp only
     exact ⟨ho2, hY2, he2, ho13, ho14⟩
  ·rintro ⟨lv2, L2, Y2, e2, o13, o14⟩ hp
   try dsimp only at hp
   obtain ⟨ho2, hY2, he2, ho13, ho14⟩ := hp
   show WC _ _ _ _ _ _ ([(9, Pt o9 0), (13, Pt o13 0), (14, Pt o14 0), (15, e2)]) ([CS K.cb lv2 K.stop K.fail, L2, KB K.kb (Tr K.stop ids).2, X, Y2, [(sb, .cells #[.pointer none, .pointer none] 214 (0, 0))], [(o9, Obj.cells #[.map none] 59 (0, 0))], [(o13, Obj.cells #[.nilIface] 146 (0, 0))], [(o14, Obj.cells #[.map none] 59 (0, 0))], R0])
   refine WC.seq ?_
   refine WC.f8 ?_
   refine WC.f8 ?_
   refine WC.cat ?_
   refine WC.gate 5 (([(o13, Obj.cells #[.nilIface] 146 (0, 0))] ++ [(o14, Obj.cells #[.map none] 59 (0, 0))])) (by kernel_rfl) ?_
   refine WG.q 0 [] rfl (.head _) (fun w0 => oq_fieldAddr fld146_0 rfl) rfl rfl rfl ?_
   refine WG.q 1 [] rfl (.head _) (fun w0 => oq_load flat20 rfl (.head _) (List.mem_append_left _ (List.mem_singleton.2 rfl)) rfl) rfl rfl rfl ?_
   refine WG.q 2 [] rfl (.head _) (fun w0 => oq_loadS [_] agg59 ty59 rfl (.head _) (List.mem_append_right _ (List.mem_singleton.2 rfl)) rfl rfl) rfl rfl rfl ?_
   refine WG.p 3 rfl (.inr (.head _)) (fun w0 => oq_move rfl) rfl rfl rfl ?_
   refine WG.q 4 [] rfl (.head _) (fun w0 => oq_assign rfl) rfl rfl rfl ?_
   refine WG.step (i := 5) (by kernel_rfl) rfl ?_
   refine WL.f7 ?_
   refine WL.storeS #[_] ty59 rfl rfl rfl rfl (Nat.le_of_ble_eq_true rfl) rfl rfl ?_
   refine WL.nil ?_
   refine WE.toG0 (by kernel_rfl) ?_
   refine WG.p 6 rfl (.inl (by kernel_rfl)) (fun w0 => oq_assign rfl) rfl rfl rfl ?_
   refine WG.done (by kernel_rfl) ?_
   refine WE.then_normal (WC.sub (fr' := [(8, _), (9, _), (10, _)]) ?_ ⟨rfl, rfl, rfl, trivial⟩)
   refine WC.ret (WE.then_ret ?_)
   refine WE.endDW [_, _, _, _, _, _] (.inl rfl) (rs3 Tryz.results170 (rv_tmp rfl) (rv_cellS [_] agg59 ty59 rfl (.head _) (List.mem_singleton.2 rfl) rfl rfl) (rv_tmp rfl)) (dr_lose ho9 (dr_forget (fresh_cat (fresh1 ho13) (fresh1 ho14)) (dr_f6 (dr_f5 (dr_f6 (dr_f6 (dr_f6 (dr_f6 (dr_f6 dr_refl))))))))) ?_
   exact ⟨_, _, _, _, _, rfl, rfl, ho2, hY2, he2, fun b o h => by simp only [List.mem_singleton] at h; injection h⟩
 ·
  try simp only [Z1, Z2, Z3, Z4, Z5, Z6, Z7, Z8, Z9, Z0] at q3
  simp at q3
theorem stepC_2 (base sb b3 : Nat) (K : KE) (X Y : Hp) (ids : List (List UInt8)) (hk : TypeId) (hv : Value) (hY : ∀ b o, (b, o) ∈ Y → base ≤ b) (hd : HD base K "Handle" .nilIface X Y (.iface hk hv) .nilIface ids) (x y : Nd) (r A1 : List Nd) (h : x :: r = A1 ++ [y]) (hX3 : (b3, Obj.cells #[Pt K.cb 0] 54 (0, 0)) ∈ X) (hr : ∀ z ∈ x :: r, Okn 2 b3 X z ∧ z.id.length ≤ 100000) (hfr : ∀ z ∈ x :: r, base ≤ z.b) (hsb : base ≤ sb) (l : List (List UInt8)) (lv : Value) (L : Hp) (ho : OwL base lv L l) (hl : l.length + 2 * (x.id :: (r.map Nd.id ++ ids)).length ≤ 100000) : FnW Tryz.prog 170 [Pt sb 0, CTX, .nilIface, .iface hk hv] base [CS K.cb lv K.stop K.fail, L, KB K.kb false, X, [(sb, .cells #[Pt x.b 0, Pt y.b 0] 214 (0, 0))], [(y.b, Obj.cells #[.nilIface, wv 239 y] 216 (0, 0))], ch 212 216 239 A1 (.iface 212 (Pt y.b 0)), Y] (CR base K X l (x.id :: (r.map Nd.id ++ ids)) .nilIface) := by
 refine FnW.enter (n := 66) Tryz.func170 rfl rfl fun w0 R0 hbase => ?_
 subst hbase
 show WC _ _ _ _ _ _ _ ([CS K.cb lv K.stop K.fail, L, KB K.kb false, X, [(sb, .cells #[Pt x.b 0, Pt y.b 0] 214 (0, 0))], [(y.b, Obj.cells #[.nilIface, wv 239 y] 216 (0, 0))], ch 212 216 239 A1 (.iface 212 (Pt y.b 0)), Y, R0])
 refine WC.sub (fr' := [(0, _), (1, _), (2, _), (3, _)]) ?_ ⟨rfl, rfl, rfl, rfl, trivial⟩
 refine WC.seq (WC.region ?_)
 refine WL.q (oq_assign rfl) rfl rfl rfl ?_
 refine WL.alloc ty59 rfl rfl fun o9 ho9 => ?_
 refine WL.q (oq_assign rfl) rfl rfl rfl ?_
 refine WL.nil (WE.then_normal (WC.sub (fr' := [(0, _), (1, _), (2, _), (3, _), (9, _)]) ?_ ⟨rfl, rfl, rfl, rfl, rfl, trivial⟩))
 refine WC.seq (WC.region ?_)
 refine WL.q (oq_move rfl) rfl rfl rfl ?_
 refine WL.q (oq_build #[_] str143 ty143 rfl rfl) rfl rfl rfl ?_
 refine WL.alloc ty143 rfl rfl fun o11 ho11 => ?_
 refine WL.storeS #[_] ty143 rfl rfl rfl rfl (Nat.le_of_ble_eq_true rfl) rfl rfl ?_
 refine WL.nil (WE.then_normal (WC.sub (fr' := [(0, _), (1, _), (3, _), (9, _), (11, _)]) ?_ ⟨rfl, rfl, rfl, rfl, rfl, trivial⟩))
 refine WC.seq (WC.region ?_)
 refine WL.q (oq_move rfl) rfl rfl rfl ?_
 refine WL.q (oq_build #[_] str277 ty277 rfl rfl) rfl rfl rfl ?_
 refine WL.box rfl rfl rfl fun w hw => ?_
 refine WL.q (oq_assign rfl) rfl rfl rfl ?_
 refine WL.nil (WE.then_normal (WC.sub (fr' := [(0, _), (1, _), (9, _), (11, _), (12, _)]) ?_ ⟨rfl, rfl, rfl, rfl, rfl, trivial⟩))
 refine WC.seq (WC.seq (WC.region ?_))
 refine WL.q (oq_move rfl) rfl rfl rfl ?_
 refine WL.q (oq_nilCheck rfl) rfl rfl rfl ?_
 refine WL.q (oq_fieldAddr fld214_0 rfl) rfl rfl rfl ?_
 refine WL.q (oq_load flat212 rfl (.tail _ (.tail _ (.tail _ (.tail _ (.tail _ (.tail _ (.tail _ (.head _)))))))) (List.mem_singleton.2 rfl) rfl) rfl rfl rfl ?_
 refine WL.q (oq_peql Tryz.underlying212 rfl rfl) rfl rfl rfl ?_
 refine WL.nil (WE.then_normal (WC.sub (fr' := [(0, _), (1, _), (9, _), (11, _), (12, _), (26, _)]) ?_ ⟨rfl, rfl, rfl, rfl, rfl, rfl, trivial⟩))
 refine WC.cond rfl (fun q3 => ?_) (fun q3 => ?_)
 ·
  try simp only [Z1, Z2, Z3, Z4, Z5, Z6, Z7, Z8, Z9, Z0] at q3
  simp at q3
 ·
  try simp only [Z1, Z2, Z3, Z4, Z5, Z6, Z7, Z8, Z9, Z0] at q3
  refine WC.skip (WE.then_normal (WC.sub (fr' := [(0, _), (1, _), (9, _), (11, _), (12, _)]) ?_ ⟨rfl, rfl, rfl, rfl, rfl, trivial⟩))
  refine WC.seq (WC.region ?_)
  refine WL.q (oq_move rfl) rfl rfl rfl ?_
  refine WL.q (oq_nilCheck rfl) rfl rfl rfl ?_
  refine WL.q (oq_fieldAddr fld214_1 rfl) rfl rfl rfl ?_
  refine WL.q (oq_load flat212 rfl (.tail _ (.tail _ (.tail _ (.tail _ (.tail _ (.tail _ (.tail _ (.head _)))))))) (List.mem_singleton.2 rfl) rfl) rfl rfl rfl ?_
  refine WL.q (oq_move rfl) rfl rfl rfl ?_
  refine WL.q (oq_makeI conc276 rfl) rfl rfl rfl ?_
  refine WL.q (oq_nilCheck rfl) rfl rfl rfl ?_
  refine WL.q (oq_fieldAddr fld216_0 rfl) rfl rfl rfl ?_
  refine WL.f8 ?_
  refine WL.store1 #[_, _] ty145 rfl rfl (by first | rfl | exact OwS.one one_) (Nat.lt_of_lt_of_le (Nat.lt_succ_self _) (Nat.le_of_ble_eq_true rfl)) rfl rfl ?_
  refine WL.nil (WE.then_normal (WC.sub (fr' := [(0, _), (1, _), (9, _), (11, _)]) ?_ ⟨rfl, rfl, rfl, rfl, trivial⟩))
  refine WC.cut (ι := Value × Hp × Hp × Value × Nat) (fun i_ => (fun (lv2 : Value) (L2 : Hp) (Y2 : Hp) (e2 : Value) (o16 : Nat) => [(9, Pt o9 0), (10, e2), (16, Pt o16 0)]) i_.1 i_.2.1 i_.2.2.1 i_.2.2.2.1 i_.2.2.2.2) (fun i_ => (fun (lv2 : Value) (L2 : Hp) (Y2 : Hp) (e2 : Value) (o16 : Nat) => [CS K.cb lv2 K.stop K.fail, L2, KB K.kb (Tr K.stop (x.id :: (r.map Nd.id ++ ids))).2, X, Y2, [(o9, Obj.cells #[.map none] 59 (0, 0))], [(o16, Obj.cells #[.nilIface] 146 (0, 0))], R0]) i_.1 i_.2.1 i_.2.2.1 i_.2.2.2.1 i_.2.2.2.2) (fun i_ => (fun (lv2 : Value) (L2 : Hp) (Y2 : Hp) (e2 : Value) (o16 : Nat) => OwL w0.heap.size lv2 L2 (l ++ (Tr K.stop (x.id :: (r.map Nd.id ++ ids))).1) ∧ (∀ b o, (b, o) ∈ Y2 → w0.heap.size ≤ b) ∧ ErrOk e2 (!(Tr K.stop (x.id :: (r.map Nd.id ++ ids))).2) K.fail ∧ w0.heap.size ≤ o16) i_.1 i_.2.1 i_.2.2.1 i_.2.2.2.1 i_.2.2.2.2) ?_ ?_
  ·
   refine WC.f10 ?_
   refine WC.f3 ?_
   refine WC.f3 ?_
   refine WC.f10 ?_
   refine WC.f4 ?_
   refine WC.f10 ?_
   refine WC.reg (regY (c := ch 212 216 239 (x :: r) (.iface 276 (Pt w 0))) (.of_eq (by rw [h, ch_app]; rfl))) ?_
   have hY0 : ∀ b o, (b, o) ∈ ([(sb, .cells #[Pt x.b 0, Pt y.b 0] 214 (0, 0))] ++ (ch 212 216 239 (x :: r) (.iface 276 (Pt w 0)) ++ ([(w, Obj.cells #[.iface hk hv] 277 (0, 0))] ++ ([(o11, Obj.cells #[.nilIface] 143 (0, 0))] ++ Y))) : Hp) → w0.heap.size ≤ b := fresh_cat (fresh1 hsb) (fresh_cat (ch_fresh hfr) (fresh_cat (fresh1 hw) (fresh_cat (fresh1 ho11) hY)))
   have hdY := (((hd.frame [(o11, Obj.cells #[.nilIface] 143 (0, 0))] (fresh1 ho11)).frame [(w, Obj.cells #[.iface hk hv] 277 (0, 0))] (fresh1 hw)).frame (ch 212 216 239 (x :: r) (.iface 276 (Pt w 0))) (ch_fresh hfr)).frame [(sb, .cells #[Pt x.b 0, Pt y.b 0] 214 (0, 0))] (fresh1 hsb)
   have hW := wrd2 hY0 hdY (List.mem_append_right _ (List.mem_append_right _ (List.mem_append_left _ (List.mem_singleton.2 rfl))))
   have hH := head2 hX3 hY0 hW x r hr (fun z hz => List.mem_append_right _ (List.mem_append_left _ hz))
   refine WC.gate 8 ([(sb, .cells #[Pt x.b 0, Pt y.b 0] 214 (0, 0))] ++ (ch 212 216 239 (x :: r) (.iface 276 (Pt w 0)) ++ ([(w, Obj.cells #[.iface hk hv] 277 (0, 0))] ++ ([(o11, Obj.cells #[.nilIface] 143 (0, 0))] ++ Y)))) (by kernel_rfl) ?_
   refine WG.q 0 [5, 4, 3, 2, 1] rfl (.head _) (fun w0 => oq_move rfl) rfl rfl rfl ?_
   refine WG.q 1 [5, 4, 3, 2] rfl (.head _) (fun w0 => oq_nilCheck rfl) rfl rfl rfl ?_
   refine WG.q 2 [5, 4, 3] rfl (.head _) (fun w0 => oq_fieldAddr fld214_0 rfl) rfl rfl rfl ?_
   refine WG.q 3 [5, 4] rfl (.head _) (fun w0 => oq_load flat212 rfl (.head _) (List.mem_append_left _ (List.mem_singleton.2 rfl)) rfl) rfl rfl rfl ?_
   refine WG.q 4 [5] rfl (.head _) (fun w0 => oq_nilCheck rfl) rfl rfl rfl ?_
   refine WG.q 5 [] rfl (.head _) (fun w0 => oq_loadS [_, _] agg216 ty216 rfl (.head _) (List.mem_append_right _ (List.mem_append_left _ List.mem_cons_self)) rfl rfl) rfl rfl rfl ?_
   refine WG.q 6 [] rfl (.head _) (fun w0 => oq_move rfl) rfl rfl rfl ?_
   refine WG.q 7 [] rfl (.head _) (fun w0 => oq_loadS [_] agg143 ty143 rfl (.head _) (List.mem_append_right _ (List.mem_append_right _ (List.mem_append_right _ (List.mem_append_left _ (List.mem_singleton.2 rfl))))) rfl rfl) rfl rfl rfl ?_
   refine WG.fork2 (i := 8) (j := 13) (by kernel_rfl) rfl rfl ?_ ?_
   ·
    refine WL.f5 ?_
    refine WL.f5 ?_
    refine WL.f5 ?_
    refine WL.f5 ?_
    refine WL.callW5 (hH l lv L ho hl) call151 rfl rfl rfl fun v7_8 Hs7_8 hR7_8 => ?_
    obtain ⟨lv2, L2, Y2, e2, rfl, rfl, ho2, hY2, he2⟩ := hR7_8
    refine WL.to5 ?_
    refine WL.nil ?_
    refine WE.toG0 (by kernel_rfl) ?_
    refine WG.p 9 rfl (.inl (by kernel_rfl)) (fun w0 => oq_move rfl) rfl rfl rfl ?_
    refine WG.p 10 rfl (.inl (by kernel_rfl)) (fun w0 => oq_extract rfl rfl) rfl rfl rfl ?_
    refine WG.p 11 rfl (.inl (by kernel_rfl)) (fun w0 => oq_extract rfl rfl) rfl rfl rfl ?_
    refine WG.p 12 rfl (.inl (by kernel_rfl)) (fun w0 => oq_extract rfl rfl) rfl rfl rfl ?_
    refine WG.step (i := 13) (by kernel_rfl) rfl ?_
    refine WL.alloc ty146 rfl rfl fun o16 ho16 => ?_
    refine WL.nil ?_
    refine WE.toG0 (by kernel_rfl) ?_
    refine WG.step (i := 14) (by kernel_rfl) rfl ?_
    refine WL.storeS #[_] ty146 rfl rfl rfl rfl (Nat.le_of_ble_eq_true rfl) rfl rfl ?_
    refine WL.nil ?_
    refine WE.toG0 (by kernel_rfl) ?_
    refine WG.step (i := 15) (by kernel_rfl) rfl ?_
    refine WL.f6 ?_
    refine WL.storeS #[_] ty59 rfl rfl rfl rfl (Nat.le_of_ble_eq_true rfl) rfl rfl ?_
    refine WL.nil ?_
    refine WE.toG0 (by kernel_rfl) ?_
    refine WG.p 16 rfl (.inl (by kernel_rfl)) (fun w0 => oq_assign rfl) rfl rfl rfl ?_
    refine WG.done (by kernel_rfl) ?_
    refine WE.f7 ?_
    refine WE.f2 ?_
    refine WE.f2 ?_
    refine WE.f7 ?_
    refine WE.f7 ?_
    refine WE.f7 ?_
    refine WE.f7 ?_
    refine WE.f7 ?_
    refine WE.meet (_, _, _, _, _) ?_ ⟨rfl, rfl, rfl, trivial⟩ (List.Perm.refl _)
    try dsimp only
    exact ⟨ho2, hY2, he2, ho16⟩
   ·
    refine WL.alloc ty146 rfl rfl fun o16 ho16 => ?_
    refine WL.nil ?_
    refine WE.toG (.tail _ (.head _)) ?_
    refine WG.step (i := 8) (by kernel_rfl) rfl ?_
    refine WL.f1 ?_
    refine WL.f6 ?_
    refine WL.f6 ?_
    refine WL.f6 ?_
    refine WL.f6 ?_
    refine WL.callW5 (hH l lv L ho hl) call151 rfl rfl rfl fun v7_8 Hs7_8 hR7_8 => ?_
    obtain ⟨lv2, L2, Y2, e2, rfl, rfl, ho2, hY2, he2⟩ := hR7_8
    refine WL.to5 ?_
    refine WL.nil ?_
    refine WE.toG0 (by kernel_rfl) ?_
    refine WG.p 9 rfl (.inl (by kernel_rfl)) (fun w0 => oq_move rfl) rfl rfl rfl ?_
    refine WG.p 10 rfl (.inl (by kernel_rfl)) (fun w0 => oq_extract rfl rfl) rfl rfl rfl ?_
    refine WG.p 11 rfl (.inl (by kernel_rfl)) (fun w0 => oq_extract rfl rfl) rfl rfl rfl ?_
    refine WG.p 12 rfl (.inl (by kernel_rfl)) (fun w0 => oq_extract rfl rfl) rfl rfl rfl ?_
    refine WG.step (i := 14) (by kernel_rfl) rfl ?_
    refine WL.f5 ?_
    refine WL.storeS #[_] ty146 rfl rfl rfl rfl (Nat.le_of_ble_eq_true rfl) rfl rfl ?_
    refine WL.nil ?_
    refine WE.toG0 (by kernel_rfl) ?_
    refine WG.step (i := 15) (by kernel_rfl) rfl ?_
    refine WL.f6 ?_
    refine WL.storeS #[_] ty59 rfl rfl rfl rfl (Nat.le_of_ble_eq_true rfl) rfl rfl ?_
    refine WL.nil ?_
    refine WE.toG0 (by kernel_rfl) ?_
    refine WG.p 16 rfl (.inl (by kernel_rfl)) (fun w0 => oq_assign rfl) rfl rfl rfl ?_
    refine WG.done (by kernel_rfl) ?_
    refine WE.f7 ?_
    refine WE.f2 ?_
    refine WE.f2 ?_
    refine WE.f7 ?_
    refine WE.f7 ?_
    refine WE.f7 ?_
    refine WE.f7 ?_
    refine WE.f7 ?_
    refine WE.meet (_, _, _, _, _) ?_ ⟨rfl, rfl, rfl, trivial⟩ (List.Perm.refl _)
    try dsimp only
    exact ⟨ho2, hY2, he2, ho16⟩
  ·rintro ⟨lv2, L2, Y2, e2, o16⟩ hp
   try dsimp only at hp
   obtain ⟨ho2, hY2, he2, ho16⟩ := hp
   show WC _ _ _ _ _ _ ([(9, Pt o9 0), (10, e2), (16, Pt o16 0)]) ([CS K.cb lv2 K.stop K.fail, L2, KB K.kb (Tr K.stop (x.id :: (r.map Nd.id ++ ids))).2, X, Y2, [(o9, Obj.cells #[.map none] 59 (0, 0))], [(o16, Obj.cells #[.nilIface] 146 (0, 0))], R0])
   refine WC.seq ?_
   refine WC.gate 5 ([(o16, Obj.cells #[.nilIface] 146 (0, 0))]) (by kernel_rfl) ?_
   refine WG.q 0 [] rfl (.tail _ (.tail _ (.tail _ (.tail _ (.tail _ (.tail _ (.head _))))))) (fun w0 => oq_fieldAddr fld146_0 rfl) rfl rfl rfl ?_
   refine WG.q 1 [] rfl (.tail _ (.tail _ (.tail _ (.tail _ (.tail _ (.tail _ (.head _))))))) (fun w0 => oq_load flat20 rfl (.head _) (List.mem_singleton.2 rfl) rfl) rfl rfl rfl ?_
   refine WG.p 3 rfl (.inr (.tail _ (.tail _ (.tail _ (.tail _ (.tail _ (.tail _ (.head _)))))))) (fun w0 => oq_move rfl) rfl rfl rfl ?_
   refine WG.q 4 [] rfl (.tail _ (.tail _ (.tail _ (.tail _ (.tail _ (.tail _ (.head _))))))) (fun w0 => oq_assign rfl) rfl rfl rfl ?_
   refine WG.step (i := 2) (by kernel_rfl) rfl ?_
   refine WL.q (oq_loadS [_] agg59 ty59 rfl (.tail _ (.tail _ (.tail _ (.tail _ (.tail _ (.head _)))))) (List.mem_singleton.2 rfl) rfl rfl) rfl rfl rfl ?_
   refine WL.nil ?_
   refine WE.toG (.tail _ (.tail _ (.tail _ (.tail _ (.tail _ (.tail _ (.head _))))))) ?_
   refine WG.step (i := 5) (by kernel_rfl) rfl ?_
   refine WL.f5 ?_
   refine WL.storeS #[_] ty59 rfl rfl rfl rfl (Nat.le_of_ble_eq_true rfl) rfl rfl ?_
   refine WL.nil ?_
   refine WE.toG0 (by kernel_rfl) ?_
   refine WG.p 6 rfl (.inl (by kernel_rfl)) (fun w0 => oq_assign rfl) rfl rfl rfl ?_
   refine WG.done (by kernel_rfl) ?_
   refine WE.then_normal (WC.sub (fr' := [(8, _), (9, _), (10, _)]) ?_ ⟨rfl, rfl, rfl, trivial⟩)
   refine WC.ret ?_
   refine WE.endDW [_, _, _, _, _] (.inl rfl) (rs3 Tryz.results170 (rv_tmp rfl) (rv_cellS [_] agg59 ty59 rfl (.head _) (List.mem_singleton.2 rfl) rfl rfl) (rv_tmp rfl)) (dr_lose ho9 (dr_f5 (dr_lose ho16 dr_refl))) ?_
   exact crSame (ov' := .nilIface) ho2 hY2 he2
theorem step2 {base sb b3 : Nat} {K : KE} {X Y : Hp} {ids : List (List UInt8)} {hk : TypeId} {hv : Value} (hY : ∀ b o, (b, o) ∈ Y → base ≤ b) (hd : HD base K "Handle" .nilIface X Y (.iface hk hv) .nilIface ids) (hX3 : (b3, Obj.cells #[Pt K.cb 0] 54 (0, 0)) ∈ X) (its : List Nd)
  (hr : ∀ z ∈ its, Okn 2 b3 X z ∧ z.id.length ≤ 100000) (hfr : ∀ z ∈ its, base ≤ z.b) (hsb : base ≤ sb) : HC base K 170 [Pt sb 0, CTX, .nilIface, .iface hk hv] X (stg 2 sb NR its ++ Y) .nilIface (its.map Nd.id ++ ids) := by
 intro l lv L ho hl
 cases its with
 | nil =>
  refine (step0_2 base sb K X Y ids hk hv hY hd l lv L ho hl).reg (by simp [stg, ch, scells, hdp, lastp]; rfl) ?_
  rintro v Hs ⟨lv2, L2, Y2, e2, s, rfl, rfl, h1, h2, h3, h4⟩
  exact ⟨_, ⟨lv2, L2, s ++ Y2, e2, rfl, rfl, h1, fresh_cat (fun b o hb => by rw [h4 b o hb]; exact hsb) h2, h3⟩, by simp⟩
 | cons x r =>
  obtain h | ⟨A1, y, h⟩ := nd_ends (x :: r)
  ·cases h
  ·have hl2 : lastp (x :: r) = Pt y.b 0 := by rw [h, lastp_snoc]
   have e : stg 2 sb NR (x :: r) = [(sb, .cells #[Pt x.b 0, Pt y.b 0] 214 (0, 0))] ++ (ch 212 216 239 A1 (.iface 212 (Pt y.b 0)) ++ [(y.b, Obj.cells #[.nilIface, wv 239 y] 216 (0, 0))]) := by
    show [(sb, Obj.cells (scells 2 (hdp (x :: r)) (lastp (x :: r)) NR) _ _)] ++ ch _ _ _ (x :: r) _ = _
    rw [hl2]
    congr 1
    rw [h, ch_app]; rfl
   refine (stepC_2 base sb b3 K X Y ids hk hv hY hd x y r A1 h hX3 hr hfr hsb l lv L ho hl).reg ?_ (fun v Hs hh => ⟨Hs, hh, List.Perm.refl _⟩)
   rw [e]
   exact regI
theorem invP_dec3 : InvP2 Tryz.prog 218 222 "HandleFinalize" 152 := invp2_of (mrow_of Tryz.underlying218 call152 (by kernel_rfl))
theorem invP_wr3 : InvP2 Tryz.prog 278 279 "HandleFinalize" 173 := invp2_of (mrow_of Tryz.underlying278 call173 (by kernel_rfl))
theorem node3 {base : Nat} {K : KE} {X Y : Hp} {b3 : Nat} {x : Nd} {h : Value} {ids : List (List UInt8)} (hX3 : (b3, Obj.cells #[Pt K.cb 0] 54 (0, 0)) ∈ X) (hx : Okn 3 b3 X x) (hi : x.id.length ≤ 100000) (hY : ∀ b o, (b, o) ∈ Y → base ≤ b) (hd : HD base K "HandleFinalize" (.agg #[.nilIface]) X Y h (.agg #[.nilIface]) ids) :
  HC base K 152 [.agg #[h, wv 243 x], CTX, .agg #[.nilIface]] X Y (.agg #[.nilIface]) (x.id :: ids) := by
 obtain ⟨q, hq, hXq⟩ := hx
 unfold wv
 rw [hq]
 exact dech3 base K X Y b3 q x.id _ h hY (mfh3 base K X Y b3 q x.id _ h hY (inner3 base K b3 q x.id ids X Y h hi hX3 hXq hY hd))
theorem chain3 {base : Nat} {K : KE} {X Y : Hp} {b3 : Nat} {e : Value} {ids : List (List UInt8)} (hX3 : (b3, Obj.cells #[Pt K.cb 0] 54 (0, 0)) ∈ X) (hY : ∀ b o, (b, o) ∈ Y → base ≤ b) (hd : HD base K "HandleFinalize" (.agg #[.nilIface]) X Y e (.agg #[.nilIface]) ids) :
  ∀ (r : List Nd), (∀ x ∈ r, Okn 3 b3 X x ∧ x.id.length ≤ 100000) → (∀ z, z ∈ ch 218 222 243 r e → z ∈ Y) → HD base K "HandleFinalize" (.agg #[.nilIface]) X Y (nextOf 218 r e) (.agg #[.nilIface]) (r.map Nd.id ++ ids)
 | [], _, _ => hd
 | x :: r, hr, hm => by
  obtain ⟨h1, h2⟩ := hr x List.mem_cons_self
  have ih := chain3 hX3 hY hd r (fun y hy => hr y (List.mem_cons_of_mem _ hy)) (fun z hz => hm z (List.mem_cons_of_mem _ hz))
  exact ⟨152, _, inv_of_p2 (cells := [nextOf 218 r e, wv 243 x]) invP_dec3 agg222 ty222 rfl (hm _ List.mem_cons_self), node3 hX3 h1 h2 hY ih⟩
theorem head3 {base : Nat} {K : KE} {X Y : Hp} {b3 : Nat} {e : Value} {ids : List (List UInt8)} (hX3 : (b3, Obj.cells #[Pt K.cb 0] 54 (0, 0)) ∈ X) (hY : ∀ b o, (b, o) ∈ Y → base ≤ b) (hd : HD base K "HandleFinalize" (.agg #[.nilIface]) X Y e (.agg #[.nilIface]) ids)
  (x : Nd) (r : List Nd) (hr : ∀ y ∈ x :: r, Okn 3 b3 X y ∧ y.id.length ≤ 100000) (hm : ∀ z, z ∈ ch 218 222 243 (x :: r) e → z ∈ Y) : HC base K 152 [.agg #[nextOf 218 r e, wv 243 x], CTX, .agg #[.nilIface]] X Y (.agg #[.nilIface]) (x.id :: (r.map Nd.id ++ ids)) :=
 node3 hX3 (hr x List.mem_cons_self).1 (hr x List.mem_cons_self).2 hY (chain3 hX3 hY hd r (fun y hy => hr y (List.mem_cons_of_mem _ hy)) (fun z hz => hm z (List.mem_cons_of_mem _ hz)))
theorem wrd3 {base : Nat} {K : KE} {X Y : Hp} {b : Nat} {h : Value} {ids : List (List UInt8)} (hY : ∀ b o, (b, o) ∈ Y → base ≤ b) (hd : HD base K "Handle" .nilIface X Y h .nilIface ids) (hb : (b, Obj.cells #[h] 279 (0, 0)) ∈ Y) : HD base K "HandleFinalize" (.agg #[.nilIface]) X Y (.iface 278 (Pt b 0)) (.agg #[.nilIface]) ids :=
 ⟨173, _, inv_of_p2 (cells := [h]) invP_wr3 agg279 ty279 rfl hb, wrh3 base K X Y ids h hY hd⟩
theorem step0_3 (base sb : Nat) (K : KE) (X Y : Hp) (ids : List (List UInt8)) (hk : TypeId) (hv : Value) (hY : ∀ b o, (b, o) ∈ Y → base ≤ b) (hd : HD base K "Handle" .nilIface X Y (.iface hk hv) .nilIface ids) (l : List (List UInt8)) (lv : Value) (L : Hp) (ho : OwL base lv L l) (hl : l.length + 2 * ids.length ≤ 100000) : FnW Tryz.prog 172 [Pt sb 0, CTX, .nilIface, .iface hk hv] base [CS K.cb lv K.stop K.fail, L, KB K.kb false, X, [(sb, .cells #[.pointer none, .pointer none] 220 (0, 0))], Y] (fun v Hs => ∃ lv2 L2 Y2 e2 s, Hs = [CS K.cb lv2 K.stop K.fail, L2, KB K.kb (Tr K.stop ids).2, X, s, Y2] ∧ v = .tuple #[.nilIface, META, e2] ∧ OwL base lv2 L2 (l ++ (Tr K.stop ids).1) ∧ (∀ b o, (b, o) ∈ Y2 → base ≤ b) ∧ ErrOk e2 (!(Tr K.stop ids).2) K.fail ∧ ∀ b o, (b, o) ∈ s → b = sb) := by
 refine FnW.enter (n := 66) Tryz.func172 rfl rfl fun w0 R0 hbase => ?_
 subst hbase
 show WC _ _ _ _ _ _ _ ([CS K.cb lv K.stop K.fail, L, KB K.kb false, X, [(sb, .cells #[.pointer none, .pointer none] 220 (0, 0))], Y, R0])
 refine WC.sub (fr' := [(0, _), (1, _), (2, _), (3, _)]) ?_ ⟨rfl, rfl, rfl, rfl, trivial⟩
 refine WC.seq (WC.region ?_)
 refine WL.q (oq_assign rfl) rfl rfl rfl ?_
 refine WL.alloc ty59 rfl rfl fun o9 ho9 => ?_
 refine WL.q (oq_assign rfl) rfl rfl rfl ?_
 refine WL.nil (WE.then_normal (WC.sub (fr' := [(0, _), (1, _), (2, _), (3, _), (9, _)]) ?_ ⟨rfl, rfl, rfl, rfl, rfl, trivial⟩))
 refine WC.seq (WC.region ?_)
 refine WL.q (oq_move rfl) rfl rfl rfl ?_
 refine WL.q (oq_build #[_] str161 ty161 rfl rfl) rfl rfl rfl ?_
 refine WL.alloc ty161 rfl rfl fun o11 ho11 => ?_
 refine WL.storeS #[_] ty161 rfl rfl rfl rfl (Nat.le_of_ble_eq_true rfl) rfl rfl ?_
 refine WL.nil (WE.then_normal (WC.sub (fr' := [(0, _), (1, _), (3, _), (9, _), (11, _)]) ?_ ⟨rfl, rfl, rfl, rfl, rfl, trivial⟩))
 refine WC.seq (WC.region ?_)
 refine WL.q (oq_move rfl) rfl rfl rfl ?_
 refine WL.q (oq_build #[_] str279 ty279 rfl rfl) rfl rfl rfl ?_
 refine WL.box rfl rfl rfl fun w hw => ?_
 refine WL.q (oq_assign rfl) rfl rfl rfl ?_
 refine WL.nil (WE.then_normal (WC.sub (fr' := [(0, _), (1, _), (9, _), (11, _), (12, _)]) ?_ ⟨rfl, rfl, rfl, rfl, rfl, trivial⟩))
 refine WC.seq (WC.seq (WC.region ?_))
 refine WL.q (oq_move rfl) rfl rfl rfl ?_
 refine WL.q (oq_nilCheck rfl) rfl rfl rfl ?_
 refine WL.q (oq_fieldAddr fld220_0 rfl) rfl rfl rfl ?_
 refine WL.q (oq_load flat218 rfl (.tail _ (.tail _ (.tail _ (.tail _ (.tail _ (.tail _ (.tail _ (.head _)))))))) (List.mem_singleton.2 rfl) rfl) rfl rfl rfl ?_
 refine WL.q (oq_peql Tryz.underlying218 rfl rfl) rfl rfl rfl ?_
 refine WL.nil (WE.then_normal (WC.sub (fr' := [(0, _), (1, _), (9, _), (11, _), (12, _), (26, _)]) ?_ ⟨rfl, rfl, rfl, rfl, rfl, rfl, trivial⟩))
 refine WC.cond rfl (fun q3 => ?_) (fun q3 => ?_)
 ·
  try simp only [Z1, Z2, Z3, Z4, Z5, Z6, Z7, Z8, Z9, Z0] at q3
  refine WC.cut (ι := Value × Hp × Hp × Value × Nat × Nat) (fun i_ => (fun (lv2 : Value) (L2 : Hp) (Y2 : Hp) (e2 : Value) (o13 : Nat) (o14 : Nat) => [(9, Pt o9 0), (13, Pt o13 0), (14, Pt o14 0), (15, e2)]) i_.1 i_.2.1 i_.2.2.1 i_.2.2.2.1 i_.2.2.2.2.1 i_.2.2.2.2.2) (fun i_ => (fun (lv2 : Value) (L2 : Hp) (Y2 : Hp) (e2 : Value) (o13 : Nat) (o14 : Nat) => [CS K.cb lv2 K.stop K.fail, L2, KB K.kb (Tr K.stop ids).2, X, Y2, [(sb, .cells #[.pointer none, .pointer none] 220 (0, 0))], [(o9, Obj.cells #[.map none] 59 (0, 0))], [(o13, Obj.cells #[.nilIface] 164 (0, 0))], [(o14, Obj.cells #[.map none] 59 (0, 0))], R0]) i_.1 i_.2.1 i_.2.2.1 i_.2.2.2.1 i_.2.2.2.2.1 i_.2.2.2.2.2) (fun i_ => (fun (lv2 : Value) (L2 : Hp) (Y2 : Hp) (e2 : Value) (o13 : Nat) (o14 : Nat) => OwL w0.heap.size lv2 L2 (l ++ (Tr K.stop ids).1) ∧ (∀ b o, (b, o) ∈ Y2 → w0.heap.size ≤ b) ∧ ErrOk e2 (!(Tr K.stop ids).2) K.fail ∧ w0.heap.size ≤ o13 ∧ w0.heap.size ≤ o14) i_.1 i_.2.1 i_.2.2.1 i_.2.2.2.1 i_.2.2.2.2.1 i_.2.2.2.2.2) ?_ ?_
  ·
   refine WC.f1 ?_
   refine WC.f1 ?_
   refine WC.cat ?_
   refine WC.gate 5 ([(w, Obj.cells #[.iface hk hv] 279 (0, 0))] ++ [(o11, Obj.cells #[.nilIface] 161 (0, 0))]) (by kernel_rfl) ?_
   refine WG.q 0 [2, 1] rfl (.head _) (fun w0 => oq_move rfl) rfl rfl rfl ?_
   refine WG.q 1 [2] rfl (.head _) (fun w0 => oq_nilCheck rfl) rfl rfl rfl ?_
   refine WG.q 2 [] rfl (.head _) (fun w0 => oq_loadS [_] agg279 ty279 rfl (.head _) (List.mem_append_left _ (List.mem_singleton.2 rfl)) rfl rfl) rfl rfl rfl ?_
   refine WG.q 3 [] rfl (.head _) (fun w0 => oq_move rfl) rfl rfl rfl ?_
   refine WG.q 4 [] rfl (.head _) (fun w0 => oq_loadS [_] agg161 ty161 rfl (.head _) (List.mem_append_right _ (List.mem_singleton.2 rfl)) rfl rfl) rfl rfl rfl ?_
   refine WG.fork3 (i := 5) (j := 10) (m := 11) (by kernel_rfl) rfl rfl rfl ?_ ?_ ?_
   ·
    refine WL.f7 ?_
    refine WL.f6 ?_
    refine WL.f6 ?_
    refine WL.f6 ?_
    refine WL.f6 ?_
    refine WL.callW5 (wrh3 _ K X Y ids _ hY hd l lv L ho hl) call173 rfl rfl rfl fun v4_5 Hs4_5 hR4_5 => ?_
    obtain ⟨lv2, L2, Y2, e2, rfl, rfl, ho2, hY2, he2⟩ := hR4_5
    refine WL.to5 ?_
    refine WL.nil ?_
    refine WE.toG0 (by kernel_rfl) ?_
    refine WG.p 6 rfl (.inl (by kernel_rfl)) (fun w0 => oq_move rfl) rfl rfl rfl ?_
    refine WG.p 7 rfl (.inl (by kernel_rfl)) (fun w0 => oq_extract rfl rfl) rfl rfl rfl ?_
    refine WG.p 8 rfl (.inl (by kernel_rfl)) (fun w0 => oq_extract rfl rfl) rfl rfl rfl ?_
    refine WG.p 9 rfl (.inl (by kernel_rfl)) (fun w0 => oq_extract rfl rfl) rfl rfl rfl ?_
    refine WG.fork2 (i := 10) (j := 11) (by kernel_rfl) rfl rfl ?_ ?_
    ·
     refine WL.alloc ty164 rfl rfl fun o13 ho13 => ?_
     refine WL.nil ?_
     refine WE.toG0 (by kernel_rfl) ?_
     refine WG.step (i := 11) (by kernel_rfl) rfl ?_
     refine WL.alloc ty59 rfl rfl fun o14 ho14 => ?_
     refine WL.nil ?_
     refine WE.toG0 (by kernel_rfl) ?_
     refine WG.step (i := 12) (by kernel_rfl) rfl ?_
     refine WL.f1 ?_
     refine WL.storeS #[_] ty164 rfl rfl rfl rfl (Nat.le_of_ble_eq_true rfl) rfl rfl ?_
     refine WL.nil ?_
     refine WE.toG0 (by kernel_rfl) ?_
     refine WG.step (i := 13) (by kernel_rfl) rfl ?_
     refine WL.f1 ?_
     refine WL.storeS #[_] ty59 rfl rfl rfl rfl (Nat.le_of_ble_eq_true rfl) rfl rfl ?_
     refine WL.nil ?_
     refine WE.toG0 (by kernel_rfl) ?_
     refine WG.p 14 rfl (.inl (by kernel_rfl)) (fun w0 => oq_assign rfl) rfl rfl rfl ?_
     refine WG.done (by kernel_rfl) ?_
     refine WE.f7 ?_
     refine WE.forget (fresh_cat (fresh1 hw) (fresh1 ho11)) ?_
     refine WE.f9 ?_
     refine WE.f1 ?_
     refine WE.f2 ?_
     refine WE.f8 ?_
     refine WE.f9 ?_
     refine WE.f9 ?_
     refine WE.f9 ?_
     refine WE.f9 ?_
     refine WE.f9 ?_
     refine WE.f9 ?_
     refine WE.meet (_, _, _, _, _, _) ?_ ⟨rfl, rfl, rfl, rfl, trivial⟩ (List.Perm.refl _)
     try dsimp only
     exact ⟨ho2, hY2, he2, ho13, ho14⟩
    ·
     refine WL.alloc ty59 rfl rfl fun o14 ho14 => ?_
     refine WL.nil ?_
     refine WE.toG0 (by kernel_rfl) ?_
     refine WG.step (i := 10) (by kernel_rfl) rfl ?_
     refine WL.alloc ty164 rfl rfl fun o13 ho13 => ?_
     refine WL.nil ?_
     refine WE.toG0 (by kernel_rfl) ?_
     refine WG.step (i := 12) (by kernel_rfl) rfl ?_
     refine WL.storeS #[_] ty164 rfl rfl rfl rfl (Nat.le_of_ble_eq_true rfl) rfl rfl ?_
     refine WL.nil ?_
     refine WE.toG0 (by kernel_rfl) ?_
     refine WG.step (i := 13) (by kernel_rfl) rfl ?_
     refine WL.f1 ?_
     refine WL.storeS #[_] ty59 rfl rfl rfl rfl (Nat.le_of_ble_eq_true rfl) rfl rfl ?_
     refine WL.nil ?_
     refine WE.toG0 (by kernel_rfl) ?_
     refine WG.p 14 rfl (.inl (by kernel_rfl)) (fun w0 => oq_assign rfl) rfl rfl rfl ?_
     refine WG.done (by kernel_rfl) ?_
     refine WE.f7 ?_
     refine WE.forget (fresh_cat (fresh1 hw) (fresh1 ho11)) ?_
     refine WE.f9 ?_
     refine WE.f1 ?_
     refine WE.f2 ?_
     refine WE.f8 ?_
     refine WE.f9 ?_
     refine WE.f9 ?_
     refine WE.f9 ?_
     refine WE.f9 ?_
     refine WE.f9 ?_
     refine WE.f9 ?_
     refine WE.meet (_, _, _, _, _, _) ?_ ⟨rfl, rfl, rfl, rfl, trivial⟩ (List.Perm.refl _)
     try dsimp only
     exact ⟨ho2, hY2, he2, ho13, ho14⟩
   ·
    refine WL.alloc ty164 rfl rfl fun o13 ho13 => ?_
    refine WL.nil ?_
    refine WE.toG (.tail _ (.head _)) ?_
    refine WG.fork2 (i := 5) (j := 11) (by kernel_rfl) rfl rfl ?_ ?_
    ·
     refine WL.f8 ?_
     refine WL.f7 ?_
     refine WL.f7 ?_
     refine WL.f7 ?_
     refine WL.f7 ?_
     refine WL.callW5 (wrh3 _ K X Y ids _ hY hd l lv L ho hl) call173 rfl rfl rfl fun v4_5 Hs4_5 hR4_5 => ?_
     obtain ⟨lv2, L2, Y2, e2, rfl, rfl, ho2, hY2, he2⟩ := hR4_5
     refine WL.to5 ?_
     refine WL.nil ?_
     refine WE.toG0 (by kernel_rfl) ?_
     refine WG.p 6 rfl (.inl (by kernel_rfl)) (fun w0 => oq_move rfl) rfl rfl rfl ?_
     refine WG.p 7 rfl (.inl (by kernel_rfl)) (fun w0 => oq_extract rfl rfl) rfl rfl rfl ?_
     refine WG.p 8 rfl (.inl (by kernel_rfl)) (fun w0 => oq_extract rfl rfl) rfl rfl rfl ?_
     refine WG.p 9 rfl (.inl (by kernel_rfl)) (fun w0 => oq_extract rfl rfl) rfl rfl rfl ?_
     refine WG.step (i := 11) (by kernel_rfl) rfl ?_
     refine WL.alloc ty59 rfl rfl fun o14 ho14 => ?_
     refine WL.nil ?_
     refine WE.toG0 (by kernel_rfl) ?_
     refine WG.step (i := 12) (by kernel_rfl) rfl ?_
     refine WL.f6 ?_
     refine WL.storeS #[_] ty164 rfl rfl rfl rfl (Nat.le_of_ble_eq_true rfl) rfl rfl ?_
     refine WL.nil ?_
     refine WE.toG0 (by kernel_rfl) ?_
     refine WG.step (i := 13) (by kernel_rfl) rfl ?_
     refine WL.f1 ?_
     refine WL.storeS #[_] ty59 rfl rfl rfl rfl (Nat.le_of_ble_eq_true rfl) rfl rfl ?_
     refine WL.nil ?_
     refine WE.toG0 (by kernel_rfl) ?_
     refine WG.p 14 rfl (.inl (by kernel_rfl)) (fun w0 => oq_assign rfl) rfl rfl rfl ?_
     refine WG.done (by kernel_rfl) ?_
     refine WE.f7 ?_
     refine WE.forget (fresh_cat (fresh1 hw) (fresh1 ho11)) ?_
     refine WE.f9 ?_
     refine WE.f1 ?_
     refine WE.f2 ?_
     refine WE.f8 ?_
     refine WE.f9 ?_
     refine WE.f9 ?_
     refine WE.f9 ?_
     refine WE.f9 ?_
     refine WE.f9 ?_
     refine WE.f9 ?_
     refine WE.meet (_, _, _, _, _, _) ?_ ⟨rfl, rfl, rfl, rfl, trivial⟩ (List.Perm.refl _)
     try dsimp only
     exact ⟨ho2, hY2, he2, ho13, ho14⟩
    ·
     refine WL.alloc ty59 rfl rfl fun o14 ho14 => ?_
     refine WL.nil ?_
     refine WE.toG (.tail _ (.tail _ (.head _))) ?_
     refine WG.step (i := 5) (by kernel_rfl) rfl ?_
     refine WL.f9 ?_
     refine WL.f8 ?_
     refine WL.f8 ?_
     refine WL.f8 ?_
     refine WL.f8 ?_
     refine WL.callW5 (wrh3 _ K X Y ids _ hY hd l lv L ho hl) call173 rfl rfl rfl fun v4_5 Hs4_5 hR4_5 => ?_
     obtain ⟨lv2, L2, Y2, e2, rfl, rfl, ho2, hY2, he2⟩ := hR4_5
     refine WL.to5 ?_
     refine WL.nil ?_
     refine WE.toG0 (by kernel_rfl) ?_
     refine WG.p 6 rfl (.inl (by kernel_rfl)) (fun w0 => oq_move rfl) rfl rfl rfl ?_
     refine WG.p 7 rfl (.inl (by kernel_rfl)) (fun w0 => oq_extract rfl rfl) rfl rfl rfl ?_
     refine WG.p 8 rfl (.inl (by kernel_rfl)) (fun w0 => oq_extract rfl rfl) rfl rfl rfl ?_
     refine WG.p 9 rfl (.inl (by kernel_rfl)) (fun w0 => oq_extract rfl rfl) rfl rfl rfl ?_
     refine WG.step (i := 12) (by kernel_rfl) rfl ?_
     refine WL.f6 ?_
     refine WL.storeS #[_] ty164 rfl rfl rfl rfl (Nat.le_of_ble_eq_true rfl) rfl rfl ?_
     refine WL.nil ?_
     refine WE.toG0 (by kernel_rfl) ?_
     refine WG.step (i := 13) (by kernel_rfl) rfl ?_
     refine WL.f6 ?_
     refine WL.storeS #[_] ty59 rfl rfl rfl rfl (Nat.le_of_ble_eq_true rfl) rfl rfl ?_
     refine WL.nil ?_
     refine WE.toG0 (by kernel_rfl) ?_
     refine WG.p 14 rfl (.inl (by kernel_rfl)) (fun w0 => oq_assign rfl) rfl rfl rfl ?_
     refine WG.done (by kernel_rfl) ?_
     refine WE.f7 ?_
     refine WE.forget (fresh_cat (fresh1 hw) (fresh1 ho11)) ?_
     refine WE.f9 ?_
     refine WE.f1 ?_
     refine WE.f2 ?_
     refine WE.f8 ?_
     refine WE.f9 ?_
     refine WE.f9 ?_
     refine WE.f9 ?_
     refine WE.f9 ?_
     refine WE.f9 ?_
     refine WE.f9 ?_
     refine WE.meet (_, _, _, _, _, _) ?_ ⟨rfl, rfl, rfl, rfl, trivial⟩ (List.Perm.refl _)
     try dsimp only
     exact ⟨ho2, hY2, he2, ho13, ho14⟩
   ·
    refine WL.alloc ty59 rfl rfl fun o14 ho14 => ?_
    refine WL.nil ?_
    refine WE.toG (.tail _ (.head _)) ?_
    refine WG.fork2 (i := 5) (j := 10) (by kernel_rfl) rfl rfl ?_ ?_
    ·
     refine WL.f8 ?_
     refine WL.f7 ?_
     refine WL.f7 ?_
     refine WL.f7 ?_
     refine WL.f7 ?_
     refine WL.callW5 (wrh3 _ K X Y ids _ hY hd l lv L ho hl) call173 rfl rfl rfl fun v4_5 Hs4_5 hR4_5 => ?_
     obtain ⟨lv2, L2, Y2, e2, rfl, rfl, ho2, hY2, he2⟩ := hR4_5
     refine WL.to5 ?_
     refine WL.nil ?_
     refine WE.toG0 (by kernel_rfl) ?_
     refine WG.p 6 rfl (.inl (by kernel_rfl)) (fun w0 => oq_move rfl) rfl rfl rfl ?_
     refine WG.p 7 rfl (.inl (by kernel_rfl)) (fun w0 => oq_extract rfl rfl) rfl rfl rfl ?_
     refine WG.p 8 rfl (.inl (by kernel_rfl)) (fun w0 => oq_extract rfl rfl) rfl rfl rfl ?_
     refine WG.p 9 rfl (.inl (by kernel_rfl)) (fun w0 => oq_extract rfl rfl) rfl rfl rfl ?_
     refine WG.step (i := 10) (by kernel_rfl) rfl ?_
     refine WL.alloc ty164 rfl rfl fun o13 ho13 => ?_
     refine WL.nil ?_
     refine WE.toG0 (by kernel_rfl) ?_
     refine WG.step (i := 12) (by kernel_rfl) rfl ?_
     refine WL.storeS #[_] ty164 rfl rfl rfl rfl (Nat.le_of_ble_eq_true rfl) rfl rfl ?_
     refine WL.nil ?_
     refine WE.toG0 (by kernel_rfl) ?_
     refine WG.step (i := 13) (by kernel_rfl) rfl ?_
     refine WL.f6 ?_
     refine WL.storeS #[_] ty59 rfl rfl rfl rfl (Nat.le_of_ble_eq_true rfl) rfl rfl ?_
     refine WL.nil ?_
     refine WE.toG0 (by kernel_rfl) ?_
     refine WG.p 14 rfl (.inl (by kernel_rfl)) (fun w0 => oq_assign rfl) rfl rfl rfl ?_
     refine WG.done (by kernel_rfl) ?_
     refine WE.f7 ?_
     refine WE.forget (fresh_cat (fresh1 hw) (fresh1 ho11)) ?_
     refine WE.f9 ?_
     refine WE.f1 ?_
     refine WE.f2 ?_
     refine WE.f8 ?_
     refine WE.f9 ?_
     refine WE.f9 ?_
     refine WE.f9 ?_
     refine WE.f9 ?_
     refine WE.f9 ?_
     refine WE.f9 ?_
     refine WE.meet (_, _, _, _, _, _) ?_ ⟨rfl, rfl, rfl, rfl, trivial⟩ (List.Perm.refl _)
     try dsimp only
     exact ⟨ho2, hY2, he2, ho13, ho14⟩
    ·
     refine WL.alloc ty164 rfl rfl fun o13 ho13 => ?_
     refine WL.nil ?_
     refine WE.toG (.tail _ (.tail _ (.head _))) ?_
     refine WG.step (i := 5) (by kernel_rfl) rfl ?_
     refine WL.f9 ?_
     refine WL.f8 ?_
     refine WL.f8 ?_
     refine WL.f8 ?_
     refine WL.f8 ?_
     refine WL.callW5 (wrh3 _ K X Y ids _ hY hd l lv L ho hl) call173 rfl rfl rfl fun v4_5 Hs4_5 hR4_5 => ?_
     obtain ⟨lv2, L2, Y2, e2, rfl, rfl, ho2, hY2, he2⟩ := hR4_5
     refine WL.to5 ?_
     refine WL.nil ?_
     refine WE.toG0 (by kernel_rfl) ?_
     refine WG.p 6 rfl (.inl (by kernel_rfl)) (fun w0 => oq_move rfl) rfl rfl rfl ?_
     refine WG.p 7 rfl (.inl (by kernel_rfl)) (fun w0 => oq_extract rfl rfl) rfl rfl rfl ?_
     refine WG.p 8 rfl (.inl (by kernel_rfl)) (fun w0 => oq_extract rfl rfl) rfl rfl rfl ?_
     refine WG.p 9 rfl (.inl (by kernel_rfl)) (fun w0 => oq_extract rfl rfl) rfl rfl rfl ?_
     refine WG.step (i := 12) (by kernel_rfl) rfl ?_
     refine WL.f5 ?_
     refine WL.storeS #[_] ty164 rfl rfl rfl rfl (Nat.le_of_ble_eq_true rfl) rfl rfl ?_
     refine WL.nil ?_
     refine WE.toG0 (by kernel_rfl) ?_
     refine WG.step (i := 13) (by kernel_rfl) rfl ?_
     refine WL.f6 ?_
     refine WL.storeS #[_] ty59 rfl rfl rfl rfl (Nat.le_of_ble_eq_true rfl) rfl rfl ?_
     refine WL.nil ?_
     refine WE.toG0 (by kernel_rfl) ?_
     refine WG.p 14 rfl (.inl (by kernel_rfl)) (fun w0 => oq_assign rfl) rfl rfl rfl ?_
     refine WG.done (by kernel_rfl) ?_
     refine WE.f7 ?_
     refine WE.forget (fresh_cat (fresh1 hw) (fresh1 ho11)) ?_
     refine WE.f9 ?_
     refine WE.f1 ?_
     refine WE.f2 ?_
     refine WE.f8 ?_
     refine WE.f9 ?_
     refine WE.f9 ?_
     refine WE.f9 ?_
     refine WE.f9 ?_
     refine WE.f9 ?_
     refine WE.f9 ?_
     refine WE.meet (_, _, _, _, _, _) ?_ ⟨rfl, rfl, rfl, rfl, trivial⟩ (List.Perm.refl _)
     try dsimp only
     exact ⟨ho2, hY2, he2, ho13, ho14⟩
  ·rintro ⟨lv2, L2, Y2, e2, o13, o14⟩ hp
   try dsimp only at hp
   obtain ⟨ho2, hY2, he2, ho13, ho14⟩ := hp
   show WC _ _ _ _ _ _ ([(9, Pt o9 0), (13, Pt o13 0), (14, Pt o14 0), (15, e2)]) ([CS K.cb lv2 K.stop K.fail, L2, KB K.kb (Tr K.stop ids).2, X, Y2, [(sb, .cells #[.pointer none, .pointer none] 220 (0, 0))], [(o9, Obj.cells #[.map none] 59 (0, 0))], [(o13, Obj.cells #[.nilIface] 164 (0, 0))], [(o14, Obj.cells #[.map none] 59 (0, 0))], R0])
   refine WC.seq ?_
   refine WC.f8 ?_
   refine WC.f8 ?_
   refine WC.cat ?_
   refine WC.gate 5 (([(o13, Obj.cells #[.nilIface] 164 (0, 0))] ++ [(o14, Obj.cells #[.map none] 59 (0, 0))])) (by kernel_rfl) ?_
   refine WG.q 0 [] rfl (.head _) (fun w0 => oq_fieldAddr fld164_0 rfl) rfl rfl rfl ?_
   refine WG.q 1 [] rfl (.head _) (fun w0 => oq_load flat20 rfl (.head _) (List.mem_append_left _ (List.mem_singleton.2 rfl)) rfl) rfl rfl rfl ?_
   refine WG.q 2 [] rfl (.head _) (fun w0 => oq_loadS [_] agg59 ty59 rfl (.head _) (List.mem_append_right _ (List.mem_singleton.2 rfl)) rfl rfl) rfl rfl rfl ?_
   refine WG.p 3 rfl (.inr (.head _)) (fun w0 => oq_move rfl) rfl rfl rfl ?_
   refine WG.q 4 [] rfl (.head _) (fun w0 => oq_assign rfl) rfl rfl rfl ?_
   refine WG.step (i := 5) (by kernel_rfl) rfl ?_
   refine WL.f7 ?_
   refine WL.storeS #[_] ty59 rfl rfl rfl rfl (Nat.le_of_ble_eq_true rfl) rfl rfl ?_
   refine WL.nil ?_
   refine WE.toG0 (by kernel_rfl) ?_
   refine WG.p 6 rfl (.inl (by kernel_rfl)) (fun w0 => oq_assign rfl) rfl rfl rfl ?_
   refine WG.done (by kernel_rfl) ?_
   refine WE.then_normal (WC.sub (fr' := [(8, _), (9, _), (10, _)]) ?_ ⟨rfl, rfl, rfl, trivial⟩)
   refine WC.ret (WE.then_ret ?_)
   refine WE.endDW [_, _, _, _, _, _] (.inl rfl) (rs3 Tryz.results172 (rv_tmp rfl) (rv_cellS [_] agg59 ty59 rfl (.head _) (List.mem_singleton.2 rfl) rfl rfl) (rv_tmp rfl)) (dr_lose ho9 (dr_forget (fresh_cat (fresh1 ho13) (fresh1 ho14)) (dr_f6 (dr_f5 (dr_f6 (dr_f6 (dr_f6 (dr_f6 (dr_f6 dr_refl))))))))) ?_
   exact ⟨_, _, _, _, _, rfl, rfl, ho2, hY2, he2, fun b o h => by simp only [List.mem_singleton] at h; injection h⟩
 ·
  try simp only [Z1, Z2, Z3, Z4, Z5, Z6, Z7, Z8, Z9, Z0] at q3
  simp at q3
theorem stepC_3 (base sb b3 : Nat) (K : KE) (X Y : Hp) (ids : List (List UInt8)) (hk : TypeId) (hv : Value) (hY : ∀ b o, (b, o) ∈ Y → base ≤ b) (hd : HD base K "Handle" .nilIface X Y (.iface hk hv) .nilIface ids) (x y : Nd) (r A1 : List Nd) (h : x :: r = A1 ++ [y]) (hX3 : (b3, Obj.cells #[Pt K.cb 0] 54 (0, 0)) ∈ X) (hr : ∀ z ∈ x :: r, Okn 3 b3 X z ∧ z.id.length ≤ 100000) (hfr : ∀ z ∈ x :: r, base ≤ z.b) (hsb : base ≤ sb) (l : List (List UInt8)) (lv : Value) (L : Hp) (ho : OwL base lv L l) (hl : l.length + 2 * (x.id :: (r.map Nd.id ++ ids)).length ≤ 100000) : FnW Tryz.prog 172 [Pt sb 0, CTX, .nilIface, .iface hk hv] base [CS K.cb lv K.stop K.fail, L, KB K.kb false, X, [(sb, .cells #[Pt x.b 0, Pt y.b 0] 220 (0, 0))], [(y.b, Obj.cells #[.nilIface, wv 243 y] 222 (0, 0))], ch 218 222 243 A1 (.iface 218 (Pt y.b 0)), Y] (CR base K X l (x.id :: (r.map Nd.id ++ ids)) .nilIface) := by
 refine FnW.enter (n := 66) Tryz.func172 rfl rfl fun w0 R0 hbase => ?_
 subst hbase
 show WC _ _ _ _ _ _ _ ([CS K.cb lv K.stop K.fail, L, KB K.kb false, X, [(sb, .cells #[Pt x.b 0, Pt y.b 0] 220 (0, 0))], [(y.b, Obj.cells #[.nilIface, wv 243 y] 222 (0, 0))], ch 218 222 243 A1 (.iface 218 (Pt y.b 0)), Y, R0])
 refine WC.sub (fr' := [(0, _), (1, _), (2, _), (3, _)]) ?_ ⟨rfl, rfl, rfl, rfl, trivial⟩
 refine WC.seq (WC.region ?_)
 refine WL.q (oq_assign rfl) rfl rfl rfl ?_
 refine WL.alloc ty59 rfl rfl fun o9 ho9 => ?_
 refine WL.q (oq_assign rfl) rfl rfl rfl ?_
 refine WL.nil (WE.then_normal (WC.sub (fr' := [(0, _), (1, _), (2, _), (3, _), (9, _)]) ?_ ⟨rfl, rfl, rfl, rfl, rfl, trivial⟩))
 refine WC.seq (WC.region ?_)
 refine WL.q (oq_move rfl) rfl rfl rfl ?_
 refine WL.q (oq_build #[_] str161 ty161 rfl rfl) rfl rfl rfl ?_
 refine WL.alloc ty161 rfl rfl fun o11 ho11 => ?_
 refine WL.storeS #[_] ty161 rfl rfl rfl rfl (Nat.le_of_ble_eq_true rfl) rfl rfl ?_
 refine WL.nil (WE.then_normal (WC.sub (fr' := [(0, _), (1, _), (3, _), (9, _), (11, _)]) ?_ ⟨rfl, rfl, rfl, rfl, rfl, trivial⟩))
 refine WC.seq (WC.region ?_)
 refine WL.q (oq_move rfl) rfl rfl rfl ?_
 refine WL.q (oq_build #[_] str279 ty279 rfl rfl) rfl rfl rfl ?_
 refine WL.box rfl rfl rfl fun w hw => ?_
 refine WL.q (oq_assign rfl) rfl rfl rfl ?_
 refine WL.nil (WE.then_normal (WC.sub (fr' := [(0, _), (1, _), (9, _), (11, _), (12, _)]) ?_ ⟨rfl, rfl, rfl, rfl, rfl, trivial⟩))
 refine WC.seq (WC.seq (WC.region ?_))
 refine WL.q (oq_move rfl) rfl rfl rfl ?_
 refine WL.q (oq_nilCheck rfl) rfl rfl rfl ?_
 refine WL.q (oq_fieldAddr fld220_0 rfl) rfl rfl rfl ?_
 refine WL.q (oq_load flat218 rfl (.tail _ (.tail _ (.tail _ (.tail _ (.tail _ (.tail _ (.tail _ (.head _)))))))) (List.mem_singleton.2 rfl) rfl) rfl rfl rfl ?_
 refine WL.q (oq_peql Tryz.underlying218 rfl rfl) rfl rfl rfl ?_
 refine WL.nil (WE.then_normal (WC.sub (fr' := [(0, _), (1, _), (9, _), (11, _), (12, _), (26, _)]) ?_ ⟨rfl, rfl, rfl, rfl, rfl, rfl, trivial⟩))
 refine WC.cond rfl (fun q3 => ?_) (fun q3 => ?_)
 ·
  try simp only [Z1, Z2, Z3, Z4, Z5, Z6, Z7, Z8, Z9, Z0] at q3
  simp at q3
 ·
  try simp only [Z1, Z2, Z3, Z4, Z5, Z6, Z7, Z8, Z9, Z0] at q3
  refine WC.skip (WE.then_normal (WC.sub (fr' := [(0, _), (1, _), (9, _), (11, _), (12, _)]) ?_ ⟨rfl, rfl, rfl, rfl, rfl, trivial⟩))
  refine WC.seq (WC.region ?_)
  refine WL.q (oq_move rfl) rfl rfl rfl ?_
  refine WL.q (oq_nilCheck rfl) rfl rfl rfl ?_
  refine WL.q (oq_fieldAddr fld220_1 rfl) rfl rfl rfl ?_
  refine WL.q (oq_load flat218 rfl (.tail _ (.tail _ (.tail _ (.tail _ (.tail _ (.tail _ (.tail _ (.head _)))))))) (List.mem_singleton.2 rfl) rfl) rfl rfl rfl ?_
  refine WL.q (oq_move rfl) rfl rfl rfl ?_
  refine WL.q (oq_makeI conc278 rfl) rfl rfl rfl ?_
  refine WL.q (oq_nilCheck rfl) rfl rfl rfl ?_
  refine WL.q (oq_fieldAddr fld222_0 rfl) rfl rfl rfl ?_
  refine WL.f8 ?_
  refine WL.store1 #[_, _] ty163 rfl rfl (by first | rfl | exact OwS.one one_) (Nat.lt_of_lt_of_le (Nat.lt_succ_self _) (Nat.le_of_ble_eq_true rfl)) rfl rfl ?_
  refine WL.nil (WE.then_normal (WC.sub (fr' := [(0, _), (1, _), (9, _), (11, _)]) ?_ ⟨rfl, rfl, rfl, rfl, trivial⟩))
  refine WC.cut (ι := Value × Hp × Hp × Value × Nat) (fun i_ => (fun (lv2 : Value) (L2 : Hp) (Y2 : Hp) (e2 : Value) (o16 : Nat) => [(9, Pt o9 0), (10, e2), (16, Pt o16 0)]) i_.1 i_.2.1 i_.2.2.1 i_.2.2.2.1 i_.2.2.2.2) (fun i_ => (fun (lv2 : Value) (L2 : Hp) (Y2 : Hp) (e2 : Value) (o16 : Nat) => [CS K.cb lv2 K.stop K.fail, L2, KB K.kb (Tr K.stop (x.id :: (r.map Nd.id ++ ids))).2, X, Y2, [(o9, Obj.cells #[.map none] 59 (0, 0))], [(o16, Obj.cells #[.nilIface] 164 (0, 0))], R0]) i_.1 i_.2.1 i_.2.2.1 i_.2.2.2.1 i_.2.2.2.2) (fun i_ => (fun (lv2 : Value) (L2 : Hp) (Y2 : Hp) (e2 : Value) (o16 : Nat) => OwL w0.heap.size lv2 L2 (l ++ (Tr K.stop (x.id :: (r.map Nd.id ++ ids))).1) ∧ (∀ b o, (b, o) ∈ Y2 → w0.heap.size ≤ b) ∧ ErrOk e2 (!(Tr K.stop (x.id :: (r.map Nd.id ++ ids))).2) K.fail ∧ w0.heap.size ≤ o16) i_.1 i_.2.1 i_.2.2.1 i_.2.2.2.1 i_.2.2.2.2) ?_ ?_
  ·
   refine WC.f10 ?_
   refine WC.f3 ?_
   refine WC.f3 ?_
   refine WC.f10 ?_
   refine WC.f4 ?_
   refine WC.f10 ?_
   refine WC.reg (regY (c := ch 218 222 243 (x :: r) (.iface 278 (Pt w 0))) (.of_eq (by rw [h, ch_app]; rfl))) ?_
   have hY0 : ∀ b o, (b, o) ∈ ([(sb, .cells #[Pt x.b 0, Pt y.b 0] 220 (0, 0))] ++ (ch 218 222 243 (x :: r) (.iface 278 (Pt w 0)) ++ ([(w, Obj.cells #[.iface hk hv] 279 (0, 0))] ++ ([(o11, Obj.cells #[.nilIface] 161 (0, 0))] ++ Y))) : Hp) → w0.heap.size ≤ b := fresh_cat (fresh1 hsb) (fresh_cat (ch_fresh hfr) (fresh_cat (fresh1 hw) (fresh_cat (fresh1 ho11) hY)))
   have hdY := (((hd.frame [(o11, Obj.cells #[.nilIface] 161 (0, 0))] (fresh1 ho11)).frame [(w, Obj.cells #[.iface hk hv] 279 (0, 0))] (fresh1 hw)).frame (ch 218 222 243 (x :: r) (.iface 278 (Pt w 0))) (ch_fresh hfr)).frame [(sb, .cells #[Pt x.b 0, Pt y.b 0] 220 (0, 0))] (fresh1 hsb)
   have hW := wrd3 hY0 hdY (List.mem_append_right _ (List.mem_append_right _ (List.mem_append_left _ (List.mem_singleton.2 rfl))))
   have hH := head3 hX3 hY0 hW x r hr (fun z hz => List.mem_append_right _ (List.mem_append_left _ hz))
   refine WC.gate 8 ([(sb, .cells #[Pt x.b 0, Pt y.b 0] 220 (0, 0))] ++ (ch 218 222 243 (x :: r) (.iface 278 (Pt w 0)) ++ ([(w, Obj.cells #[.iface hk hv] 279 (0, 0))] ++ ([(o11, Obj.cells #[.nilIface] 161 (0, 0))] ++ Y)))) (by kernel_rfl) ?_
   refine WG.q 0 [5, 4, 3, 2, 1] rfl (.head _) (fun w0 => oq_move rfl) rfl rfl rfl ?_
   refine WG.q 1 [5, 4, 3, 2] rfl (.head _) (fun w0 => oq_nilCheck rfl) rfl rfl rfl ?_
   refine WG.q 2 [5, 4, 3] rfl (.head _) (fun w0 => oq_fieldAddr fld220_0 rfl) rfl rfl rfl ?_
   refine WG.q 3 [5, 4] rfl (.head _) (fun w0 => oq_load flat218 rfl (.head _) (List.mem_append_left _ (List.mem_singleton.2 rfl)) rfl) rfl rfl rfl ?_
   refine WG.q 4 [5] rfl (.head _) (fun w0 => oq_nilCheck rfl) rfl rfl rfl ?_
   refine WG.q 5 [] rfl (.head _) (fun w0 => oq_loadS [_, _] agg222 ty222 rfl (.head _) (List.mem_append_right _ (List.mem_append_left _ List.mem_cons_self)) rfl rfl) rfl rfl rfl ?_
   refine WG.q 6 [] rfl (.head _) (fun w0 => oq_move rfl) rfl rfl rfl ?_
   refine WG.q 7 [] rfl (.head _) (fun w0 => oq_loadS [_] agg161 ty161 rfl (.head _) (List.mem_append_right _ (List.mem_append_right _ (List.mem_append_right _ (List.mem_append_left _ (List.mem_singleton.2 rfl))))) rfl rfl) rfl rfl rfl ?_
   refine WG.fork2 (i := 8) (j := 13) (by kernel_rfl) rfl rfl ?_ ?_
   ·
    refine WL.f5 ?_
    refine WL.f5 ?_
    refine WL.f5 ?_
    refine WL.f5 ?_
    refine WL.callW5 (hH l lv L ho hl) call152 rfl rfl rfl fun v7_8 Hs7_8 hR7_8 => ?_
    obtain ⟨lv2, L2, Y2, e2, rfl, rfl, ho2, hY2, he2⟩ := hR7_8
    refine WL.to5 ?_
    refine WL.nil ?_
    refine WE.toG0 (by kernel_rfl) ?_
    refine WG.p 9 rfl (.inl (by kernel_rfl)) (fun w0 => oq_move rfl) rfl rfl rfl ?_
    refine WG.p 10 rfl (.inl (by kernel_rfl)) (fun w0 => oq_extract rfl rfl) rfl rfl rfl ?_
    refine WG.p 11 rfl (.inl (by kernel_rfl)) (fun w0 => oq_extract rfl rfl) rfl rfl rfl ?_
    refine WG.p 12 rfl (.inl (by kernel_rfl)) (fun w0 => oq_extract rfl rfl) rfl rfl rfl ?_
    refine WG.step (i := 13) (by kernel_rfl) rfl ?_
    refine WL.alloc ty164 rfl rfl fun o16 ho16 => ?_
    refine WL.nil ?_
    refine WE.toG0 (by kernel_rfl) ?_
    refine WG.step (i := 14) (by kernel_rfl) rfl ?_
    refine WL.storeS #[_] ty164 rfl rfl rfl rfl (Nat.le_of_ble_eq_true rfl) rfl rfl ?_
    refine WL.nil ?_
    refine WE.toG0 (by kernel_rfl) ?_
    refine WG.step (i := 15) (by kernel_rfl) rfl ?_
    refine WL.f6 ?_
    refine WL.storeS #[_] ty59 rfl rfl rfl rfl (Nat.le_of_ble_eq_true rfl) rfl rfl ?_
    refine WL.nil ?_
    refine WE.toG0 (by kernel_rfl) ?_
    refine WG.p 16 rfl (.inl (by kernel_rfl)) (fun w0 => oq_assign rfl) rfl rfl rfl ?_
    refine WG.done (by kernel_rfl) ?_
    refine WE.f7 ?_
    refine WE.f2 ?_
    refine WE.f2 ?_
    refine WE.f7 ?_
    refine WE.f7 ?_
    refine WE.f7 ?_
    refine WE.f7 ?_
    refine WE.f7 ?_
    refine WE.meet (_, _, _, _, _) ?_ ⟨rfl, rfl, rfl, trivial⟩ (List.Perm.refl _)
    try dsimp only
    exact ⟨ho2, hY2, he2, ho16⟩
   ·
    refine WL.alloc ty164 rfl rfl fun o16 ho16 => ?_
    refine WL.nil ?_
    refine WE.toG (.tail _ (.head _)) ?_
    refine WG.step (i := 8) (by kernel_rfl) rfl ?_
    refine WL.f1 ?_
    refine WL.f6 ?_
    refine WL.f6 ?_
    refine WL.f6 ?_
    refine WL.f6 ?_
    refine WL.callW5 (hH l lv L ho hl) call152 rfl rfl rfl fun v7_8 Hs7_8 hR7_8 => ?_
    obtain ⟨lv2, L2, Y2, e2, rfl, rfl, ho2, hY2, he2⟩ := hR7_8
    refine WL.to5 ?_
    refine WL.nil ?_
    refine WE.toG0 (by kernel_rfl) ?_
    refine WG.p 9 rfl (.inl (by kernel_rfl)) (fun w0 => oq_move rfl) rfl rfl rfl ?_
    refine WG.p 10 rfl (.inl (by kernel_rfl)) (fun w0 => oq_extract rfl rfl) rfl rfl rfl ?_
    refine WG.p 11 rfl (.inl (by kernel_rfl)) (fun w0 => oq_extract rfl rfl) rfl rfl rfl ?_
    refine WG.p 12 rfl (.inl (by kernel_rfl)) (fun w0 => oq_extract rfl rfl) rfl rfl rfl ?_
    refine WG.step (i := 14) (by kernel_rfl) rfl ?_
    refine WL.f5 ?_
    refine WL.storeS #[_] ty164 rfl rfl rfl rfl (Nat.le_of_ble_eq_true rfl) rfl rfl ?_
    refine WL.nil ?_
    refine WE.toG0 (by kernel_rfl) ?_
    refine WG.step (i := 15) (by kernel_rfl) rfl ?_
    refine WL.f6 ?_
    refine WL.storeS #[_] ty59 rfl rfl rfl rfl (Nat.le_of_ble_eq_true rfl) rfl rfl ?_
    refine WL.nil ?_
    refine WE.toG0 (by kernel_rfl) ?_
    refine WG.p 16 rfl (.inl (by kernel_rfl)) (fun w0 => oq_assign rfl) rfl rfl rfl ?_
    refine WG.done (by kernel_rfl) ?_
    refine WE.f7 ?_
    refine WE.f2 ?_
    refine WE.f2 ?_
    refine WE.f7 ?_
    refine WE.f7 ?_
    refine WE.f7 ?_
    refine WE.f7 ?_
    refine WE.f7 ?_
    refine WE.meet (_, _, _, _, _) ?_ ⟨rfl, rfl, rfl, trivial⟩ (List.Perm.refl _)
    try dsimp only
    exact ⟨ho2, hY2, he2, ho16⟩
  ·rintro ⟨lv2, L2, Y2, e2, o16⟩ hp
   try dsimp only at hp
   obtain ⟨ho2, hY2, he2, ho16⟩ := hp
   show WC _ _ _ _ _ _ ([(9, Pt o9 0), (10, e2), (16, Pt o16 0)]) ([CS K.cb lv2 K.stop K.fail, L2, KB K.kb (Tr K.stop (x.id :: (r.map Nd.id ++ ids))).2, X, Y2, [(o9, Obj.cells #[.map none] 59 (0, 0))], [(o16, Obj.cells #[.nilIface] 164 (0, 0))], R0])
   refine WC.seq ?_
   refine WC.gate 5 ([(o16, Obj.cells #[.nilIface] 164 (0, 0))]) (by kernel_rfl) ?_
   refine WG.q 0 [] rfl (.tail _ (.tail _ (.tail _ (.tail _ (.tail _ (.tail _ (.head _))))))) (fun w0 => oq_fieldAddr fld164_0 rfl) rfl rfl rfl ?_
   refine WG.q 1 [] rfl (.tail _ (.tail _ (.tail _ (.tail _ (.tail _ (.tail _ (.head _))))))) (fun w0 => oq_load flat20 rfl (.head _) (List.mem_singleton.2 rfl) rfl) rfl rfl rfl ?_
   refine WG.p 3 rfl (.inr (.tail _ (.tail _ (.tail _ (.tail _ (.tail _ (.tail _ (.head _)))))))) (fun w0 => oq_move rfl) rfl rfl rfl ?_
   refine WG.q 4 [] rfl (.tail _ (.tail _ (.tail _ (.tail _ (.tail _ (.tail _ (.head _))))))) (fun w0 => oq_assign rfl) rfl rfl rfl ?_
   refine WG.step (i := 2) (by kernel_rfl) rfl ?_
   refine WL.q (oq_loadS [_] agg59 ty59 rfl (.tail _ (.tail _ (.tail _ (.tail _ (.tail _ (.head _)))))) (List.mem_singleton.2 rfl) rfl rfl) rfl rfl rfl ?_
   refine WL.nil ?_
   refine WE.toG (.tail _ (.tail _ (.tail _ (.tail _ (.tail _ (.tail _ (.head _))))))) ?_
   refine WG.step (i := 5) (by kernel_rfl) rfl ?_
   refine WL.f5 ?_
   refine WL.storeS #[_] ty59 rfl rfl rfl rfl (Nat.le_of_ble_eq_true rfl) rfl rfl ?_
   refine WL.nil ?_
   refine WE.toG0 (by kernel_rfl) ?_
   refine WG.p 6 rfl (.inl (by kernel_rfl)) (fun w0 => oq_assign rfl) rfl rfl rfl ?_
   refine WG.done (by kernel_rfl) ?_
   refine WE.then_normal (WC.sub (fr' := [(8, _), (9, _), (10, _)]) ?_ ⟨rfl, rfl, rfl, trivial⟩)
   refine WC.ret ?_
   refine WE.endDW [_, _, _, _, _] (.inl rfl) (rs3 Tryz.results172 (rv_tmp rfl) (rv_cellS [_] agg59 ty59 rfl (.head _) (List.mem_singleton.2 rfl) rfl rfl) (rv_tmp rfl)) (dr_lose ho9 (dr_f5 (dr_lose ho16 dr_refl))) ?_
   exact crSame (ov' := .nilIface) ho2 hY2 he2
theorem step3 {base sb b3 : Nat} {K : KE} {X Y : Hp} {ids : List (List UInt8)} {hk : TypeId} {hv : Value} (hY : ∀ b o, (b, o) ∈ Y → base ≤ b) (hd : HD base K "Handle" .nilIface X Y (.iface hk hv) .nilIface ids) (hX3 : (b3, Obj.cells #[Pt K.cb 0] 54 (0, 0)) ∈ X) (its : List Nd)
  (hr : ∀ z ∈ its, Okn 3 b3 X z ∧ z.id.length ≤ 100000) (hfr : ∀ z ∈ its, base ≤ z.b) (hsb : base ≤ sb) : HC base K 172 [Pt sb 0, CTX, .nilIface, .iface hk hv] X (stg 3 sb NR its ++ Y) .nilIface (its.map Nd.id ++ ids) := by
 intro l lv L ho hl
 cases its with
 | nil =>
  refine (step0_3 base sb K X Y ids hk hv hY hd l lv L ho hl).reg (by simp [stg, ch, scells, hdp, lastp]; rfl) ?_
  rintro v Hs ⟨lv2, L2, Y2, e2, s, rfl, rfl, h1, h2, h3, h4⟩
  exact ⟨_, ⟨lv2, L2, s ++ Y2, e2, rfl, rfl, h1, fresh_cat (fun b o hb => by rw [h4 b o hb]; exact hsb) h2, h3⟩, by simp⟩
 | cons x r =>
  obtain h | ⟨A1, y, h⟩ := nd_ends (x :: r)
  ·cases h
  ·have hl2 : lastp (x :: r) = Pt y.b 0 := by rw [h, lastp_snoc]
   have e : stg 3 sb NR (x :: r) = [(sb, .cells #[Pt x.b 0, Pt y.b 0] 220 (0, 0))] ++ (ch 218 222 243 A1 (.iface 218 (Pt y.b 0)) ++ [(y.b, Obj.cells #[.nilIface, wv 243 y] 222 (0, 0))]) := by
    show [(sb, Obj.cells (scells 3 (hdp (x :: r)) (lastp (x :: r)) NR) _ _)] ++ ch _ _ _ (x :: r) _ = _
    rw [hl2]
    congr 1
    rw [h, ch_app]; rfl
   refine (stepC_3 base sb b3 K X Y ids hk hv hY hd x y r A1 h hX3 hr hfr hsb l lv L ho hl).reg ?_ (fun v Hs hh => ⟨Hs, hh, List.Perm.refl _⟩)
   rw [e]
   exact regI
theorem invP_dec4 : InvP2 Tryz.prog 224 228 "HandleDeserialize" 153 := invp2_of (mrow_of Tryz.underlying224 call153 (by kernel_rfl))
theorem invP_wr4 : InvP2 Tryz.prog 280 281 "HandleDeserialize" 175 := invp2_of (mrow_of Tryz.underlying280 call175 (by kernel_rfl))
theorem node4 {base : Nat} {K : KE} {X Y : Hp} {b3 : Nat} {x : Nd} {h : Value} {ids : List (List UInt8)} (hX3 : (b3, Obj.cells #[Pt K.cb 0] 54 (0, 0)) ∈ X) (hx : Okn 4 b3 X x) (hi : x.id.length ≤ 100000) (hY : ∀ b o, (b, o) ∈ Y → base ≤ b) (hd : HD base K "HandleDeserialize" (.agg #[.nilIface]) X Y h (.agg #[.nilIface, .nilIface]) ids) :
  HC base K 153 [.agg #[h, wv 247 x], CTX, .agg #[.nilIface]] X Y (.agg #[.nilIface, .nilIface]) (x.id :: ids) := by
 obtain ⟨q, hq, hXq⟩ := hx
 unfold wv
 rw [hq]
 exact dech4 base K X Y b3 q x.id _ h hY (mfh4 base K X Y b3 q x.id _ h hY (inner4 base K b3 q x.id ids X Y h hi hX3 hXq hY hd))
theorem chain4 {base : Nat} {K : KE} {X Y : Hp} {b3 : Nat} {e : Value} {ids : List (List UInt8)} (hX3 : (b3, Obj.cells #[Pt K.cb 0] 54 (0, 0)) ∈ X) (hY : ∀ b o, (b, o) ∈ Y → base ≤ b) (hd : HD base K "HandleDeserialize" (.agg #[.nilIface]) X Y e (.agg #[.nilIface, .nilIface]) ids) :
  ∀ (r : List Nd), (∀ x ∈ r, Okn 4 b3 X x ∧ x.id.length ≤ 100000) → (∀ z, z ∈ ch 224 228 247 r e → z ∈ Y) → HD base K "HandleDeserialize" (.agg #[.nilIface]) X Y (nextOf 224 r e) (.agg #[.nilIface, .nilIface]) (r.map Nd.id ++ ids)
 | [], _, _ => hd
 | x :: r, hr, hm => by
  obtain ⟨h1, h2⟩ := hr x List.mem_cons_self
  have ih := chain4 hX3 hY hd r (fun y hy => hr y (List.mem_cons_of_mem _ hy)) (fun z hz => hm z (List.mem_cons_of_mem _ hz))
  exact ⟨153, _, inv_of_p2 (cells := [nextOf 224 r e, wv 247 x]) invP_dec4 agg228 ty228 rfl (hm _ List.mem_cons_self), node4 hX3 h1 h2 hY ih⟩
theorem head4 {base : Nat} {K : KE} {X Y : Hp} {b3 : Nat} {e : Value} {ids : List (List UInt8)} (hX3 : (b3, Obj.cells #[Pt K.cb 0] 54 (0, 0)) ∈ X) (hY : ∀ b o, (b, o) ∈ Y → base ≤ b) (hd : HD base K "HandleDeserialize" (.agg #[.nilIface]) X Y e (.agg #[.nilIface, .nilIface]) ids)
  (x : Nd) (r : List Nd) (hr : ∀ y ∈ x :: r, Okn 4 b3 X y ∧ y.id.length ≤ 100000) (hm : ∀ z, z ∈ ch 224 228 247 (x :: r) e → z ∈ Y) : HC base K 153 [.agg #[nextOf 224 r e, wv 247 x], CTX, .agg #[.nilIface]] X Y (.agg #[.nilIface, .nilIface]) (x.id :: (r.map Nd.id ++ ids)) :=
 node4 hX3 (hr x List.mem_cons_self).1 (hr x List.mem_cons_self).2 hY (chain4 hX3 hY hd r (fun y hy => hr y (List.mem_cons_of_mem _ hy)) (fun z hz => hm z (List.mem_cons_of_mem _ hz)))
theorem wrd4 {base : Nat} {K : KE} {X Y : Hp} {b : Nat} {h : Value} {ids : List (List UInt8)} (hY : ∀ b o, (b, o) ∈ Y → base ≤ b) (hd : HD base K "Handle" .nilIface X Y h .nilIface ids) (hb : (b, Obj.cells #[h] 281 (0, 0)) ∈ Y) : HD base K "HandleDeserialize" (.agg #[.nilIface]) X Y (.iface 280 (Pt b 0)) (.agg #[.nilIface, .nilIface]) ids :=
 ⟨175, _, inv_of_p2 (cells := [h]) invP_wr4 agg281 ty281 rfl hb, wrh4 base K X Y ids h hY hd⟩
theorem step0_4 (base sb : Nat) (K : KE) (X Y : Hp) (ids : List (List UInt8)) (hk : TypeId) (hv : Value) (hY : ∀ b o, (b, o) ∈ Y → base ≤ b) (hd : HD base K "Handle" .nilIface X Y (.iface hk hv) .nilIface ids) (l : List (List UInt8)) (lv : Value) (L : Hp) (ho : OwL base lv L l) (hl : l.length + 2 * ids.length ≤ 100000) : FnW Tryz.prog 174 [Pt sb 0, CTX, .nilIface, .iface hk hv] base [CS K.cb lv K.stop K.fail, L, KB K.kb false, X, [(sb, .cells #[.pointer none, .pointer none] 226 (0, 0))], Y] (fun v Hs => ∃ lv2 L2 Y2 e2 s, Hs = [CS K.cb lv2 K.stop K.fail, L2, KB K.kb (Tr K.stop ids).2, X, s, Y2] ∧ v = .tuple #[.nilIface, META, e2] ∧ OwL base lv2 L2 (l ++ (Tr K.stop ids).1) ∧ (∀ b o, (b, o) ∈ Y2 → base ≤ b) ∧ ErrOk e2 (!(Tr K.stop ids).2) K.fail ∧ ∀ b o, (b, o) ∈ s → b = sb) := by
 refine FnW.enter (n := 66) Tryz.func174 rfl rfl fun w0 R0 hbase => ?_
 subst hbase
 show WC _ _ _ _ _ _ _ ([CS K.cb lv K.stop K.fail, L, KB K.kb false, X, [(sb, .cells #[.pointer none, .pointer none] 226 (0, 0))], Y, R0])
 refine WC.sub (fr' := [(0, _), (1, _), (2, _), (3, _)]) ?_ ⟨rfl, rfl, rfl, rfl, trivial⟩
 refine WC.seq (WC.region ?_)
 refine WL.q (oq_assign rfl) rfl rfl rfl ?_
 refine WL.alloc ty59 rfl rfl fun o9 ho9 => ?_
 refine WL.q (oq_assign rfl) rfl rfl rfl ?_
 refine WL.nil (WE.then_normal (WC.sub (fr' := [(0, _), (1, _), (2, _), (3, _), (9, _)]) ?_ ⟨rfl, rfl, rfl, rfl, rfl, trivial⟩))
 refine WC.seq (WC.region ?_)
 refine WL.q (oq_move rfl) rfl rfl rfl ?_
 refine WL.q (oq_build #[_] str179 ty179 rfl rfl) rfl rfl rfl ?_
 refine WL.alloc ty179 rfl rfl fun o11 ho11 => ?_
 refine WL.storeS #[_] ty179 rfl rfl rfl rfl (Nat.le_of_ble_eq_true rfl) rfl rfl ?_
 refine WL.nil (WE.then_normal (WC.sub (fr' := [(0, _), (1, _), (3, _), (9, _), (11, _)]) ?_ ⟨rfl, rfl, rfl, rfl, rfl, trivial⟩))
 refine WC.seq (WC.region ?_)
 refine WL.q (oq_move rfl) rfl rfl rfl ?_
 refine WL.q (oq_build #[_] str281 ty281 rfl rfl) rfl rfl rfl ?_
 refine WL.box rfl rfl rfl fun w hw => ?_
 refine WL.q (oq_assign rfl) rfl rfl rfl ?_
 refine WL.nil (WE.then_normal (WC.sub (fr' := [(0, _), (1, _), (9, _), (11, _), (12, _)]) ?_ ⟨rfl, rfl, rfl, rfl, rfl, trivial⟩))
 refine WC.seq (WC.seq (WC.region ?_))
 refine WL.q (oq_move rfl) rfl rfl rfl ?_
 refine WL.q (oq_nilCheck rfl) rfl rfl rfl ?_
 refine WL.q (oq_fieldAddr fld226_0 rfl) rfl rfl rfl ?_
 refine WL.q (oq_load flat224 rfl (.tail _ (.tail _ (.tail _ (.tail _ (.tail _ (.tail _ (.tail _ (.head _)))))))) (List.mem_singleton.2 rfl) rfl) rfl rfl rfl ?_
 refine WL.q (oq_peql Tryz.underlying224 rfl rfl) rfl rfl rfl ?_
 refine WL.nil (WE.then_normal (WC.sub (fr' := [(0, _), (1, _), (9, _), (11, _), (12, _), (26, _)]) ?_ ⟨rfl, rfl, rfl, rfl, rfl, rfl, trivial⟩))
 refine WC.cond rfl (fun q3 => ?_) (fun q3 => ?_)
 ·
  try simp only [Z1, Z2, Z3, Z4, Z5, Z6, Z7, Z8, Z9, Z0] at q3
  refine WC.cut (ι := Value × Hp × Hp × Value × Nat × Nat) (fun i_ => (fun (lv2 : Value) (L2 : Hp) (Y2 : Hp) (e2 : Value) (o13 : Nat) (o14 : Nat) => [(9, Pt o9 0), (13, Pt o13 0), (14, Pt o14 0), (15, e2)]) i_.1 i_.2.1 i_.2.2.1 i_.2.2.2.1 i_.2.2.2.2.1 i_.2.2.2.2.2) (fun i_ => (fun (lv2 : Value) (L2 : Hp) (Y2 : Hp) (e2 : Value) (o13 : Nat) (o14 : Nat) => [CS K.cb lv2 K.stop K.fail, L2, KB K.kb (Tr K.stop ids).2, X, Y2, [(sb, .cells #[.pointer none, .pointer none] 226 (0, 0))], [(o9, Obj.cells #[.map none] 59 (0, 0))], [(o13, Obj.cells #[.nilIface, .nilIface] 183 (0, 0))], [(o14, Obj.cells #[.map none] 59 (0, 0))], R0]) i_.1 i_.2.1 i_.2.2.1 i_.2.2.2.1 i_.2.2.2.2.1 i_.2.2.2.2.2) (fun i_ => (fun (lv2 : Value) (L2 : Hp) (Y2 : Hp) (e2 : Value) (o13 : Nat) (o14 : Nat) => OwL w0.heap.size lv2 L2 (l ++ (Tr K.stop ids).1) ∧ (∀ b o, (b, o) ∈ Y2 → w0.heap.size ≤ b) ∧ ErrOk e2 (!(Tr K.stop ids).2) K.fail ∧ w0.heap.size ≤ o13 ∧ w0.heap.size ≤ o14) i_.1 i_.2.1 i_.2.2.1 i_.2.2.2.1 i_.2.2.2.2.1 i_.2.2.2.2.2) ?_ ?_
  ·
   refine WC.f1 ?_
   refine WC.f1 ?_
   refine WC.cat ?_
   refine WC.gate 5 ([(w, Obj.cells #[.iface hk hv] 281 (0, 0))] ++ [(o11, Obj.cells #[.nilIface] 179 (0, 0))]) (by kernel_rfl) ?_
   refine WG.q 0 [2, 1] rfl (.head _) (fun w0 => oq_move rfl) rfl rfl rfl ?_
   refine WG.q 1 [2] rfl (.head _) (fun w0 => oq_nilCheck rfl) rfl rfl rfl ?_
   refine WG.q 2 [] rfl (.head _) (fun w0 => oq_loadS [_] agg281 ty281 rfl (.head _) (List.mem_append_left _ (List.mem_singleton.2 rfl)) rfl rfl) rfl rfl rfl ?_
   refine WG.q 3 [] rfl (.head _) (fun w0 => oq_move rfl) rfl rfl rfl ?_
   refine WG.q 4 [] rfl (.head _) (fun w0 => oq_loadS [_] agg179 ty179 rfl (.head _) (List.mem_append_right _ (List.mem_singleton.2 rfl)) rfl rfl) rfl rfl rfl ?_
   refine WG.fork3 (i := 5) (j := 10) (m := 11) (by kernel_rfl) rfl rfl rfl ?_ ?_ ?_
   ·
    refine WL.f7 ?_
    refine WL.f6 ?_
    refine WL.f6 ?_
    refine WL.f6 ?_
    refine WL.f6 ?_
    refine WL.callW5 (wrh4 _ K X Y ids _ hY hd l lv L ho hl) call175 rfl rfl rfl fun v4_5 Hs4_5 hR4_5 => ?_
    obtain ⟨lv2, L2, Y2, e2, rfl, rfl, ho2, hY2, he2⟩ := hR4_5
    refine WL.to5 ?_
    refine WL.nil ?_
    refine WE.toG0 (by kernel_rfl) ?_
    refine WG.p 6 rfl (.inl (by kernel_rfl)) (fun w0 => oq_move rfl) rfl rfl rfl ?_
    refine WG.p 7 rfl (.inl (by kernel_rfl)) (fun w0 => oq_extract rfl rfl) rfl rfl rfl ?_
    refine WG.p 8 rfl (.inl (by kernel_rfl)) (fun w0 => oq_extract rfl rfl) rfl rfl rfl ?_
    refine WG.p 9 rfl (.inl (by kernel_rfl)) (fun w0 => oq_extract rfl rfl) rfl rfl rfl ?_
    refine WG.fork2 (i := 10) (j := 11) (by kernel_rfl) rfl rfl ?_ ?_
    ·
     refine WL.alloc ty183 rfl rfl fun o13 ho13 => ?_
     refine WL.nil ?_
     refine WE.toG0 (by kernel_rfl) ?_
     refine WG.step (i := 11) (by kernel_rfl) rfl ?_
     refine WL.alloc ty59 rfl rfl fun o14 ho14 => ?_
     refine WL.nil ?_
     refine WE.toG0 (by kernel_rfl) ?_
     refine WG.step (i := 12) (by kernel_rfl) rfl ?_
     refine WL.f1 ?_
     refine WL.storeS #[_, _] ty183 rfl rfl rfl rfl (Nat.le_of_ble_eq_true rfl) rfl rfl ?_
     refine WL.nil ?_
     refine WE.toG0 (by kernel_rfl) ?_
     refine WG.step (i := 13) (by kernel_rfl) rfl ?_
     refine WL.f1 ?_
     refine WL.storeS #[_] ty59 rfl rfl rfl rfl (Nat.le_of_ble_eq_true rfl) rfl rfl ?_
     refine WL.nil ?_
     refine WE.toG0 (by kernel_rfl) ?_
     refine WG.p 14 rfl (.inl (by kernel_rfl)) (fun w0 => oq_assign rfl) rfl rfl rfl ?_
     refine WG.done (by kernel_rfl) ?_
     refine WE.f7 ?_
     refine WE.forget (fresh_cat (fresh1 hw) (fresh1 ho11)) ?_
     refine WE.f9 ?_
     refine WE.f1 ?_
     refine WE.f2 ?_
     refine WE.f8 ?_
     refine WE.f9 ?_
     refine WE.f9 ?_
     refine WE.f9 ?_
     refine WE.f9 ?_
     refine WE.f9 ?_
     refine WE.f9 ?_
     refine WE.meet (_, _, _, _, _, _) ?_ ⟨rfl, rfl, rfl, rfl, trivial⟩ (List.Perm.refl _)
     try dsimp only
     exact ⟨ho2, hY2, he2, ho13, ho14⟩
    ·
     refine WL.alloc ty59 rfl rfl fun o14 ho14 => ?_
     refine WL.nil ?_
     refine WE.toG0 (by kernel_rfl) ?_
     refine WG.step (i := 10) (by kernel_rfl) rfl ?_
     refine WL.alloc ty183 rfl rfl fun o13 ho13 => ?_
     refine WL.nil ?_
     refine WE.toG0 (by kernel_rfl) ?_
     refine WG.step (i := 12) (by kernel_rfl) rfl ?_
     refine WL.storeS #[_, _] ty183 rfl rfl rfl rfl (Nat.le_of_ble_eq_true rfl) rfl rfl ?_
     refine WL.nil ?_
     refine WE.toG0 (by kernel_rfl) ?_
     refine WG.step (i := 13) (by kernel_rfl) rfl ?_
     refine WL.f1 ?_
     refine WL.storeS #[_] ty59 rfl rfl rfl rfl (Nat.le_of_ble_eq_true rfl) rfl rfl ?_
     refine WL.nil ?_
     refine WE.toG0 (by kernel_rfl) ?_
     refine WG.p 14 rfl (.inl (by kernel_rfl)) (fun w0 => oq_assign rfl) rfl rfl rfl ?_
     refine WG.done (by kernel_rfl) ?_
     refine WE.f7 ?_
     refine WE.forget (fresh_cat (fresh1 hw) (fresh1 ho11)) ?_
     refine WE.f9 ?_
     refine WE.f1 ?_
     refine WE.f2 ?_
     refine WE.f8 ?_
     refine WE.f9 ?_
     refine WE.f9 ?_
     refine WE.f9 ?_
     refine WE.f9 ?_
     refine WE.f9 ?_
     refine WE.f9 ?_
     refine WE.meet (_, _, _, _, _, _) ?_ ⟨rfl, rfl, rfl, rfl, trivial⟩ (List.Perm.refl _)
     try dsimp only
     exact ⟨ho2, hY2, he2, ho13, ho14⟩
   ·
    refine WL.alloc ty183 rfl rfl fun o13 ho13 => ?_
    refine WL.nil ?_
    refine WE.toG (.tail _ (.head _)) ?_
    refine WG.fork2 (i := 5) (j := 11) (by kernel_rfl) rfl rfl ?_ ?_
    ·
     refine WL.f8 ?_
     refine WL.f7 ?_
     refine WL.f7 ?_
     refine WL.f7 ?_
     refine WL.f7 ?_
     refine WL.callW5 (wrh4 _ K X Y ids _ hY hd l lv L ho hl) call175 rfl rfl rfl fun v4_5 Hs4_5 hR4_5 => ?_
     obtain ⟨lv2, L2, Y2, e2, rfl, rfl, ho2, hY2, he2⟩ := hR4_5
     refine WL.to5 ?_
     refine WL.nil ?_
     refine WE.toG0 (by kernel_rfl) ?_
     refine WG.p 6 rfl (.inl (by kernel_rfl)) (fun w0 => oq_move rfl) rfl rfl rfl ?_
     refine WG.p 7 rfl (.inl (by kernel_rfl)) (fun w0 => oq_extract rfl rfl) rfl rfl rfl ?_
     refine WG.p 8 rfl (.inl (by kernel_rfl)) (fun w0 => oq_extract rfl rfl) rfl rfl rfl ?_
     refine WG.p 9 rfl (.inl (by kernel_rfl)) (fun w0 => oq_extract rfl rfl) rfl rfl rfl ?_
     refine WG.step (i := 11) (by kernel_rfl) rfl ?_
     refine WL.alloc ty59 rfl rfl fun o14 ho14 => ?_
     refine WL.nil ?_
     refine WE.toG0 (by kernel_rfl) ?_
     refine WG.step (i := 12) (by kernel_rfl) rfl ?_
     refine WL.f6 ?_
     refine WL.storeS #[_, _] ty183 rfl rfl rfl rfl (Nat.le_of_ble_eq_true rfl) rfl rfl ?_
     refine WL.nil ?_
     refine WE.toG0 (by kernel_rfl) ?_
     refine WG.step (i := 13) (by kernel_rfl) rfl ?_
     refine WL.f1 ?_
     refine WL.storeS #[_] ty59 rfl rfl rfl rfl (Nat.le_of_ble_eq_true rfl) rfl rfl ?_
     refine WL.nil ?_
     refine WE.toG0 (by kernel_rfl) ?_
     refine WG.p 14 rfl (.inl (by kernel_rfl)) (fun w0 => oq_assign rfl) rfl rfl rfl ?_
     refine WG.done (by kernel_rfl) ?_
     refine WE.f7 ?_
     refine WE.forget (fresh_cat (fresh1 hw) (fresh1 ho11)) ?_
     refine WE.f9 ?_
     refine WE.f1 ?_
     refine WE.f2 ?_
     refine WE.f8 ?_
     refine WE.f9 ?_
     refine WE.f9 ?_
     refine WE.f9 ?_
     refine WE.f9 ?_
     refine WE.f9 ?_
     refine WE.f9 ?_
     refine WE.meet (_, _, _, _, _, _) ?_ ⟨rfl, rfl, rfl, rfl, trivial⟩ (List.Perm.refl _)
     try dsimp only
     exact ⟨ho2, hY2, he2, ho13, ho14⟩
    ·
     refine WL.alloc ty59 rfl rfl fun o14 ho14 => ?_
     refine WL.nil ?_
     refine WE.toG (.tail _ (.tail _ (.head _))) ?_
     refine WG.step (i := 5) (by kernel_rfl) rfl ?_
     refine WL.f9 ?_
     refine WL.f8 ?_
     refine WL.f8 ?_
     refine WL.f8 ?_
     refine WL.f8 ?_
     refine WL.callW5 (wrh4 _ K X Y ids _ hY hd l lv L ho hl) call175 rfl rfl rfl fun v4_5 Hs4_5 hR4_5 => ?_
     obtain ⟨lv2, L2, Y2, e2, rfl, rfl, ho2, hY2, he2⟩ := hR4_5
     refine WL.to5 ?_
     refine WL.nil ?_
     refine WE.toG0 (by kernel_rfl) ?_
     refine WG.p 6 rfl (.inl (by kernel_rfl)) (fun w0 => oq_move rfl) rfl rfl rfl ?_
     refine WG.p 7 rfl (.inl (by kernel_rfl)) (fun w0 => oq_extract rfl rfl) rfl rfl rfl ?_
     refine WG.p 8 rfl (.inl (by kernel_rfl)) (fun w0 => oq_extract rfl rfl) rfl rfl rfl ?_
     refine WG.p 9 rfl (.inl (by kernel_rfl)) (fun w0 => oq_extract rfl rfl) rfl rfl rfl ?_
     refine WG.step (i := 12) (by kernel_rfl) rfl ?_
     refine WL.f6 ?_
     refine WL.storeS #[_, _] ty183 rfl rfl rfl rfl (Nat.le_of_ble_eq_true rfl) rfl rfl ?_
     refine WL.nil ?_
     refine WE.toG0 (by kernel_rfl) ?_
     refine WG.step (i := 13) (by kernel_rfl) rfl ?_
     refine WL.f6 ?_
     refine WL.storeS #[_] ty59 rfl rfl rfl rfl (Nat.le_of_ble_eq_true rfl) rfl rfl ?_
     refine WL.nil ?_
     refine WE.toG0 (by kernel_rfl) ?_
     refine WG.p 14 rfl (.inl (by kernel_rfl)) (fun w0 => oq_assign rfl) rfl rfl rfl ?_
     refine WG.done (by kernel_rfl) ?_
     refine WE.f7 ?_
     refine WE.forget (fresh_cat (fresh1 hw) (fresh1 ho11)) ?_
     refine WE.f9 ?_
     refine WE.f1 ?_
     refine WE.f2 ?_
     refine WE.f8 ?_
     refine WE.f9 ?_
     refine WE.f9 ?_
     refine WE.f9 ?_
     refine WE.f9 ?_
     refine WE.f9 ?_
     refine WE.f9 ?_
     refine WE.meet (_, _, _, _, _, _) ?_ ⟨rfl, rfl, rfl, rfl, trivial⟩ (List.Perm.refl _)
     try dsimp only
     exact ⟨ho2, hY2, he2, ho13, ho14⟩
   ·
    refine WL.alloc ty59 rfl rfl fun o14 ho14 => ?_
    refine WL.nil ?_
    refine WE.toG (.tail _ (.head _)) ?_
    refine WG.fork2 (i := 5) (j := 10) (by kernel_rfl) rfl rfl ?_ ?_
    ·
     refine WL.f8 ?_
     refine WL.f7 ?_
     refine WL.f7 ?_
     refine WL.f7 ?_
     refine WL.f7 ?_
     refine WL.callW5 (wrh4 _ K X Y ids _ hY hd l lv L ho hl) call175 rfl rfl rfl fun v4_5 Hs4_5 hR4_5 => ?_
     obtain ⟨lv2, L2, Y2, e2, rfl, rfl, ho2, hY2, he2⟩ := hR4_5
     refine WL.to5 ?_
     refine WL.nil ?_
     refine WE.toG0 (by kernel_rfl) ?_
     refine WG.p 6 rfl (.inl (by kernel_rfl)) (fun w0 => oq_move rfl) rfl rfl rfl ?_
     refine WG.p 7 rfl (.inl (by kernel_rfl)) (fun w0 => oq_extract rfl rfl) rfl rfl rfl ?_
     refine WG.p 8 rfl (.inl (by kernel_rfl)) (fun w0 => oq_extract rfl rfl) rfl rfl rfl ?_
     refine WG.p 9 rfl (.inl (by kernel_rfl)) (fun w0 => oq_extract rfl rfl) rfl rfl rfl ?_
     refine WG.step (i := 10) (by kernel_rfl) rfl ?_
     refine WL.alloc ty183 rfl rfl fun o13 ho13 => ?_
     refine WL.nil ?_
     refine WE.toG0 (by kernel_rfl) ?_
     refine WG.step (i := 12) (by kernel_rfl) rfl ?_
     refine WL.storeS #[_, _] ty183 rfl rfl rfl rfl (Nat.le_of_ble_eq_true rfl) rfl rfl ?_
     refine WL.nil ?_
     refine WE.toG0 (by kernel_rfl) ?_
     refine WG.step (i := 13) (by kernel_rfl) rfl ?_
     refine WL.f6 ?_
     refine WL.storeS #[_] ty59 rfl rfl rfl rfl (Nat.le_of_ble_eq_true rfl) rfl rfl ?_
     refine WL.nil ?_
     refine WE.toG0 (by kernel_rfl) ?_
     refine WG.p 14 rfl (.inl (by kernel_rfl)) (fun w0 => oq_assign rfl) rfl rfl rfl ?_
     refine WG.done (by kernel_rfl) ?_
     refine WE.f7 ?_
     refine WE.forget (fresh_cat (fresh1 hw) (fresh1 ho11)) ?_
     refine WE.f9 ?_
     refine WE.f1 ?_
     refine WE.f2 ?_
     refine WE.f8 ?_
     refine WE.f9 ?_
     refine WE.f9 ?_
     refine WE.f9 ?_
     refine WE.f9 ?_
     refine WE.f9 ?_
     refine WE.f9 ?_
     refine WE.meet (_, _, _, _, _, _) ?_ ⟨rfl, rfl, rfl, rfl, trivial⟩ (List.Perm.refl _)
     try dsimp only
     exact ⟨ho2, hY2, he2, ho13, ho14⟩
    ·
     refine WL.alloc ty183 rfl rfl fun o13 ho13 => ?_
     refine WL.nil ?_
     refine WE.toG (.tail _ (.tail _ (.head _))) ?_
     refine WG.step (i := 5) (by kernel_rfl) rfl ?_
     refine WL.f9 ?_
     refine WL.f8 ?_
     refine WL.f8 ?_
     refine WL.f8 ?_
     refine WL.f8 ?_
     refine WL.callW5 (wrh4 _ K X Y ids _ hY hd l lv L ho hl) call175 rfl rfl rfl fun v4_5 Hs4_5 hR4_5 => ?_
     obtain ⟨lv2, L2, Y2, e2, rfl, rfl, ho2, hY2, he2⟩ := hR4_5
     refine WL.to5 ?_
     refine WL.nil ?_
     refine WE.toG0 (by kernel_rfl) ?_
     refine WG.p 6 rfl (.inl (by kernel_rfl)) (fun w0 => oq_move rfl) rfl rfl rfl ?_
     refine WG.p 7 rfl (.inl (by kernel_rfl)) (fun w0 => oq_extract rfl rfl) rfl rfl rfl ?_
     refine WG.p 8 rfl (.inl (by kernel_rfl)) (fun w0 => oq_extract rfl rfl) rfl rfl rfl ?_
     refine WG.p 9 rfl (.inl (by kernel_rfl)) (fun w0 => oq_extract rfl rfl) rfl rfl rfl ?_
     refine WG.step (i := 12) (by kernel_rfl) rfl ?_
     refine WL.f5 ?_
     refine WL.storeS #[_, _] ty183 rfl rfl rfl rfl (Nat.le_of_ble_eq_true rfl) rfl rfl ?_
     refine WL.nil ?_
     refine WE.toG0 (by kernel_rfl) ?_
     refine WG.step (i := 13) (by kernel_rfl) rfl ?_
     refine WL.f6 ?_
     refine WL.storeS #[_] ty59 rfl rfl rfl rfl (Nat.le_of_ble_eq_true rfl) rfl rfl ?_
     refine WL.nil ?_
     refine WE.toG0 (by kernel_rfl) ?_
     refine WG.p 14 rfl (.inl (by kernel_rfl)) (fun w0 => oq_assign rfl) rfl rfl rfl ?_
     refine WG.done (by kernel_rfl) ?_
     refine WE.f7 ?_
     refine WE.forget (fresh_cat (fresh1 hw) (fresh1 ho11)) ?_
     refine WE.f9 ?_
     refine WE.f1 ?_
     refine WE.f2 ?_
     refine WE.f8 ?_
     refine WE.f9 ?_
     refine WE.f9 ?_
     refine WE.f9 ?_
     refine WE.f9 ?_
     refine WE.f9 ?_
     refine WE.f9 ?_
     refine WE.meet (_, _, _, _, _, _) ?_ ⟨rfl, rfl, rfl, rfl, trivial⟩ (List.Perm.refl _)
     try dsimp only
     exact ⟨ho2, hY2, he2, ho13, ho14⟩
  ·rintro ⟨lv2, L2, Y2, e2, o13, o14⟩ hp
   try dsimp only at hp
   obtain ⟨ho2, hY2, he2, ho13, ho14⟩ := hp
   show WC _ _ _ _ _ _ ([(9, Pt o9 0), (13, Pt o13 0), (14, Pt o14 0), (15, e2)]) ([CS K.cb lv2 K.stop K.fail, L2, KB K.kb (Tr K.stop ids).2, X, Y2, [(sb, .cells #[.pointer none, .pointer none] 226 (0, 0))], [(o9, Obj.cells #[.map none] 59 (0, 0))], [(o13, Obj.cells #[.nilIface, .nilIface] 183 (0, 0))], [(o14, Obj.cells #[.map none] 59 (0, 0))], R0])
   refine WC.seq ?_
   refine WC.f8 ?_
   refine WC.f8 ?_
   refine WC.cat ?_
   refine WC.gate 5 (([(o13, Obj.cells #[.nilIface, .nilIface] 183 (0, 0))] ++ [(o14, Obj.cells #[.map none] 59 (0, 0))])) (by kernel_rfl) ?_
   refine WG.q 0 [] rfl (.head _) (fun w0 => oq_fieldAddr fld183_1 rfl) rfl rfl rfl ?_
   refine WG.q 1 [] rfl (.head _) (fun w0 => oq_load flat20 rfl (.head _) (List.mem_append_left _ (List.mem_singleton.2 rfl)) rfl) rfl rfl rfl ?_
   refine WG.q 2 [] rfl (.head _) (fun w0 => oq_loadS [_] agg59 ty59 rfl (.head _) (List.mem_append_right _ (List.mem_singleton.2 rfl)) rfl rfl) rfl rfl rfl ?_
   refine WG.p 3 rfl (.inr (.head _)) (fun w0 => oq_move rfl) rfl rfl rfl ?_
   refine WG.q 4 [] rfl (.head _) (fun w0 => oq_assign rfl) rfl rfl rfl ?_
   refine WG.step (i := 5) (by kernel_rfl) rfl ?_
   refine WL.f7 ?_
   refine WL.storeS #[_] ty59 rfl rfl rfl rfl (Nat.le_of_ble_eq_true rfl) rfl rfl ?_
   refine WL.nil ?_
   refine WE.toG0 (by kernel_rfl) ?_
   refine WG.p 6 rfl (.inl (by kernel_rfl)) (fun w0 => oq_assign rfl) rfl rfl rfl ?_
   refine WG.done (by kernel_rfl) ?_
   refine WE.then_normal (WC.sub (fr' := [(8, _), (9, _), (10, _)]) ?_ ⟨rfl, rfl, rfl, trivial⟩)
   refine WC.ret (WE.then_ret ?_)
   refine WE.endDW [_, _, _, _, _, _] (.inl rfl) (rs3 Tryz.results174 (rv_tmp rfl) (rv_cellS [_] agg59 ty59 rfl (.head _) (List.mem_singleton.2 rfl) rfl rfl) (rv_tmp rfl)) (dr_lose ho9 (dr_forget (fresh_cat (fresh1 ho13) (fresh1 ho14)) (dr_f6 (dr_f5 (dr_f6 (dr_f6 (dr_f6 (dr_f6 (dr_f6 dr_refl))))))))) ?_
   exact ⟨_, _, _, _, _, rfl, rfl, ho2, hY2, he2, fun b o h => by simp only [List.mem_singleton] at h; injection h⟩
 ·
  try simp only [Z1, Z2, Z3, Z4, Z5, Z6, Z7, Z8, Z9, Z0] at q3
  simp at q3
theorem stepC_4 (base sb b3 : Nat) (K : KE) (X Y : Hp) (ids : List (List UInt8)) (hk : TypeId) (hv : Value) (hY : ∀ b o, (b, o) ∈ Y → base ≤ b) (hd : HD base K "Handle" .nilIface X Y (.iface hk hv) .nilIface ids) (x y : Nd) (r A1 : List Nd) (h : x :: r = A1 ++ [y]) (hX3 : (b3, Obj.cells #[Pt K.cb 0] 54 (0, 0)) ∈ X) (hr : ∀ z ∈ x :: r, Okn 4 b3 X z ∧ z.id.length ≤ 100000) (hfr : ∀ z ∈ x :: r, base ≤ z.b) (hsb : base ≤ sb) (l : List (List UInt8)) (lv : Value) (L : Hp) (ho : OwL base lv L l) (hl : l.length + 2 * (x.id :: (r.map Nd.id ++ ids)).length ≤ 100000) : FnW Tryz.prog 174 [Pt sb 0, CTX, .nilIface, .iface hk hv] base [CS K.cb lv K.stop K.fail, L, KB K.kb false, X, [(sb, .cells #[Pt x.b 0, Pt y.b 0] 226 (0, 0))], [(y.b, Obj.cells #[.nilIface, wv 247 y] 228 (0, 0))], ch 224 228 247 A1 (.iface 224 (Pt y.b 0)), Y] (CR base K X l (x.id :: (r.map Nd.id ++ ids)) .nilIface) := by
 refine FnW.enter (n := 66) Tryz.func174 rfl rfl fun w0 R0 hbase => ?_
 subst hbase
 show WC _ _ _ _ _ _ _ ([CS K.cb lv K.stop K.fail, L, KB K.kb false, X, [(sb, .cells #[Pt x.b 0, Pt y.b 0] 226 (0, 0))], [(y.b, Obj.cells #[.nilIface, wv 247 y] 228 (0, 0))], ch 224 228 247 A1 (.iface 224 (Pt y.b 0)), Y, R0])
 refine WC.sub (fr' := [(0, _), (1, _), (2, _), (3, _)]) ?_ ⟨rfl, rfl, rfl, rfl, trivial⟩
 refine WC.seq (WC.region ?_)
 refine WL.q (oq_assign rfl) rfl rfl rfl ?_
 refine WL.alloc ty59 rfl rfl fun o9 ho9 => ?_
 refine WL.q (oq_assign rfl) rfl rfl rfl ?_
 refine WL.nil (WE.then_normal (WC.sub (fr' := [(0, _), (1, _), (2, _), (3, _), (9, _)]) ?_ ⟨rfl, rfl, rfl, rfl, rfl, trivial⟩))
 refine WC.seq (WC.region ?_)
 refine WL.q (oq_move rfl) rfl rfl rfl ?_
 refine WL.q (oq_build #[_] str179 ty179 rfl rfl) rfl rfl rfl ?_
 refine WL.alloc ty179 rfl rfl fun o11 ho11 => ?_
 refine WL.storeS #[_] ty179 rfl rfl rfl rfl (Nat.le_of_ble_eq_true rfl) rfl rfl ?_
 refine WL.nil (WE.then_normal (WC.sub (fr' := [(0, _), (1, _), (3, _), (9, _), (11, _)]) ?_ ⟨rfl, rfl, rfl, rfl, rfl, trivial⟩))
 refine WC.seq (WC.region ?_)
 refine WL.q (oq_move rfl) rfl rfl rfl ?_
 refine WL.q (oq_build #[_] str281 ty281 rfl rfl) rfl rfl rfl ?_
 refine WL.box rfl rfl rfl fun w hw => ?_
 refine WL.q (oq_assign rfl) rfl rfl rfl ?_
 refine WL.nil (WE.then_normal (WC.sub (fr' := [(0, _), (1, _), (9, _), (11, _), (12, _)]) ?_ ⟨rfl, rfl, rfl, rfl, rfl, trivial⟩))
 refine WC.seq (WC.seq (WC.region ?_))
 refine WL.q (oq_move rfl) rfl rfl rfl ?_
 refine WL.q (oq_nilCheck rfl) rfl rfl rfl ?_
 refine WL.q (oq_fieldAddr fld226_0 rfl) rfl rfl rfl ?_
 refine WL.q (oq_load flat224 rfl (.tail _ (.tail _ (.tail _ (.tail _ (.tail _ (.tail _ (.tail _ (.head _)))))))) (List.mem_singleton.2 rfl) rfl) rfl rfl rfl ?_
 refine WL.q (oq_peql Tryz.underlying224 rfl rfl) rfl rfl rfl ?_
 refine WL.nil (WE.then_normal (WC.sub (fr' := [(0, _), (1, _), (9, _), (11, _), (12, _), (26, _)]) ?_ ⟨rfl, rfl, rfl, rfl, rfl, rfl, trivial⟩))
 refine WC.cond rfl (fun q3 => ?_) (fun q3 => ?_)
 ·
  try simp only [Z1, Z2, Z3, Z4, Z5, Z6, Z7, Z8, Z9, Z0] at q3
  simp at q3
 ·
  try simp only [Z1, Z2, Z3, Z4, Z5, Z6, Z7, Z8, Z9, Z0] at q3
  refine WC.skip (WE.then_normal (WC.sub (fr' := [(0, _), (1, _), (9, _), (11, _), (12, _)]) ?_ ⟨rfl, rfl, rfl, rfl, rfl, trivial⟩))
  refine WC.seq (WC.region ?_)
  refine WL.q (oq_move rfl) rfl rfl rfl ?_
  refine WL.q (oq_nilCheck rfl) rfl rfl rfl ?_
  refine WL.q (oq_fieldAddr fld226_1 rfl) rfl rfl rfl ?_
  refine WL.q (oq_load flat224 rfl (.tail _ (.tail _ (.tail _ (.tail _ (.tail _ (.tail _ (.tail _ (.head _)))))))) (List.mem_singleton.2 rfl) rfl) rfl rfl rfl ?_
  refine WL.q (oq_move rfl) rfl rfl rfl ?_
  refine WL.q (oq_makeI conc280 rfl) rfl rfl rfl ?_
  refine WL.q (oq_nilCheck rfl) rfl rfl rfl ?_
  refine WL.q (oq_fieldAddr fld228_0 rfl) rfl rfl rfl ?_
  refine WL.f8 ?_
  refine WL.store1 #[_, _] ty181 rfl rfl (by first | rfl | exact OwS.one one_) (Nat.lt_of_lt_of_le (Nat.lt_succ_self _) (Nat.le_of_ble_eq_true rfl)) rfl rfl ?_
  refine WL.nil (WE.then_normal (WC.sub (fr' := [(0, _), (1, _), (9, _), (11, _)]) ?_ ⟨rfl, rfl, rfl, rfl, trivial⟩))
  refine WC.cut (ι := Value × Hp × Hp × Value × Nat) (fun i_ => (fun (lv2 : Value) (L2 : Hp) (Y2 : Hp) (e2 : Value) (o16 : Nat) => [(9, Pt o9 0), (10, e2), (16, Pt o16 0)]) i_.1 i_.2.1 i_.2.2.1 i_.2.2.2.1 i_.2.2.2.2) (fun i_ => (fun (lv2 : Value) (L2 : Hp) (Y2 : Hp) (e2 : Value) (o16 : Nat) => [CS K.cb lv2 K.stop K.fail, L2, KB K.kb (Tr K.stop (x.id :: (r.map Nd.id ++ ids))).2, X, Y2, [(o9, Obj.cells #[.map none] 59 (0, 0))], [(o16, Obj.cells #[.nilIface, .nilIface] 183 (0, 0))], R0]) i_.1 i_.2.1 i_.2.2.1 i_.2.2.2.1 i_.2.2.2.2) (fun i_ => (fun (lv2 : Value) (L2 : Hp) (Y2 : Hp) (e2 : Value) (o16 : Nat) => OwL w0.heap.size lv2 L2 (l ++ (Tr K.stop (x.id :: (r.map Nd.id ++ ids))).1) ∧ (∀ b o, (b, o) ∈ Y2 → w0.heap.size ≤ b) ∧ ErrOk e2 (!(Tr K.stop (x.id :: (r.map Nd.id ++ ids))).2) K.fail ∧ w0.heap.size ≤ o16) i_.1 i_.2.1 i_.2.2.1 i_.2.2.2.1 i_.2.2.2.2) ?_ ?_
  ·
   refine WC.f10 ?_
   refine WC.f3 ?_
   refine WC.f3 ?_
   refine WC.f10 ?_
   refine WC.f4 ?_
   refine WC.f10 ?_
   refine WC.reg (regY (c := ch 224 228 247 (x :: r) (.iface 280 (Pt w 0))) (.of_eq (by rw [h, ch_app]; rfl))) ?_
   have hY0 : ∀ b o, (b, o) ∈ ([(sb, .cells #[Pt x.b 0, Pt y.b 0] 226 (0, 0))] ++ (ch 224 228 247 (x :: r) (.iface 280 (Pt w 0)) ++ ([(w, Obj.cells #[.iface hk hv] 281 (0, 0))] ++ ([(o11, Obj.cells #[.nilIface] 179 (0, 0))] ++ Y))) : Hp) → w0.heap.size ≤ b := fresh_cat (fresh1 hsb) (fresh_cat (ch_fresh hfr) (fresh_cat (fresh1 hw) (fresh_cat (fresh1 ho11) hY)))
   have hdY := (((hd.frame [(o11, Obj.cells #[.nilIface] 179 (0, 0))] (fresh1 ho11)).frame [(w, Obj.cells #[.iface hk hv] 281 (0, 0))] (fresh1 hw)).frame (ch 224 228 247 (x :: r) (.iface 280 (Pt w 0))) (ch_fresh hfr)).frame [(sb, .cells #[Pt x.b 0, Pt y.b 0] 226 (0, 0))] (fresh1 hsb)
   have hW := wrd4 hY0 hdY (List.mem_append_right _ (List.mem_append_right _ (List.mem_append_left _ (List.mem_singleton.2 rfl))))
   have hH := head4 hX3 hY0 hW x r hr (fun z hz => List.mem_append_right _ (List.mem_append_left _ hz))
   refine WC.gate 8 ([(sb, .cells #[Pt x.b 0, Pt y.b 0] 226 (0, 0))] ++ (ch 224 228 247 (x :: r) (.iface 280 (Pt w 0)) ++ ([(w, Obj.cells #[.iface hk hv] 281 (0, 0))] ++ ([(o11, Obj.cells #[.nilIface] 179 (0, 0))] ++ Y)))) (by kernel_rfl) ?_
   refine WG.q 0 [5, 4, 3, 2, 1] rfl (.head _) (fun w0 => oq_move rfl) rfl rfl rfl ?_
   refine WG.q 1 [5, 4, 3, 2] rfl (.head _) (fun w0 => oq_nilCheck rfl) rfl rfl rfl ?_
   refine WG.q 2 [5, 4, 3] rfl (.head _) (fun w0 => oq_fieldAddr fld226_0 rfl) rfl rfl rfl ?_
   refine WG.q 3 [5, 4] rfl (.head _) (fun w0 => oq_load flat224 rfl (.head _) (List.mem_append_left _ (List.mem_singleton.2 rfl)) rfl) rfl rfl rfl ?_
   refine WG.q 4 [5] rfl (.head _) (fun w0 => oq_nilCheck rfl) rfl rfl rfl ?_
   refine WG.q 5 [] rfl (.head _) (fun w0 => oq_loadS [_, _] agg228 ty228 rfl (.head _) (List.mem_append_right _ (List.mem_append_left _ List.mem_cons_self)) rfl rfl) rfl rfl rfl ?_
   refine WG.q 6 [] rfl (.head _) (fun w0 => oq_move rfl) rfl rfl rfl ?_
   refine WG.q 7 [] rfl (.head _) (fun w0 => oq_loadS [_] agg179 ty179 rfl (.head _) (List.mem_append_right _ (List.mem_append_right _ (List.mem_append_right _ (List.mem_append_left _ (List.mem_singleton.2 rfl))))) rfl rfl) rfl rfl rfl ?_
   refine WG.fork2 (i := 8) (j := 13) (by kernel_rfl) rfl rfl ?_ ?_
   ·
    refine WL.f5 ?_
    refine WL.f5 ?_
    refine WL.f5 ?_
    refine WL.f5 ?_
    refine WL.callW5 (hH l lv L ho hl) call153 rfl rfl rfl fun v7_8 Hs7_8 hR7_8 => ?_
    obtain ⟨lv2, L2, Y2, e2, rfl, rfl, ho2, hY2, he2⟩ := hR7_8
    refine WL.to5 ?_
    refine WL.nil ?_
    refine WE.toG0 (by kernel_rfl) ?_
    refine WG.p 9 rfl (.inl (by kernel_rfl)) (fun w0 => oq_move rfl) rfl rfl rfl ?_
    refine WG.p 10 rfl (.inl (by kernel_rfl)) (fun w0 => oq_extract rfl rfl) rfl rfl rfl ?_
    refine WG.p 11 rfl (.inl (by kernel_rfl)) (fun w0 => oq_extract rfl rfl) rfl rfl rfl ?_
    refine WG.p 12 rfl (.inl (by kernel_rfl)) (fun w0 => oq_extract rfl rfl) rfl rfl rfl ?_
    refine WG.step (i := 13) (by kernel_rfl) rfl ?_
    refine WL.alloc ty183 rfl rfl fun o16 ho16 => ?_
    refine WL.nil ?_
    refine WE.toG0 (by kernel_rfl) ?_
    refine WG.step (i := 14) (by kernel_rfl) rfl ?_
    refine WL.storeS #[_, _] ty183 rfl rfl rfl rfl (Nat.le_of_ble_eq_true rfl) rfl rfl ?_
    refine WL.nil ?_
    refine WE.toG0 (by kernel_rfl) ?_
    refine WG.step (i := 15) (by kernel_rfl) rfl ?_
    refine WL.f6 ?_
    refine WL.storeS #[_] ty59 rfl rfl rfl rfl (Nat.le_of_ble_eq_true rfl) rfl rfl ?_
    refine WL.nil ?_
    refine WE.toG0 (by kernel_rfl) ?_
    refine WG.p 16 rfl (.inl (by kernel_rfl)) (fun w0 => oq_assign rfl) rfl rfl rfl ?_
    refine WG.done (by kernel_rfl) ?_
    refine WE.f7 ?_
    refine WE.f2 ?_
    refine WE.f2 ?_
    refine WE.f7 ?_
    refine WE.f7 ?_
    refine WE.f7 ?_
    refine WE.f7 ?_
    refine WE.f7 ?_
    refine WE.meet (_, _, _, _, _) ?_ ⟨rfl, rfl, rfl, trivial⟩ (List.Perm.refl _)
    try dsimp only
    exact ⟨ho2, hY2, he2, ho16⟩
   ·
    refine WL.alloc ty183 rfl rfl fun o16 ho16 => ?_
    refine WL.nil ?_
    refine WE.toG (.tail _ (.head _)) ?_
    refine WG.step (i := 8) (by kernel_rfl) rfl ?_
    refine WL.f1 ?_
    refine WL.f6 ?_
    refine WL.f6 ?_
    refine WL.f6 ?_
    refine WL.f6 ?_
    refine WL.callW5 (hH l lv L ho hl) call153 rfl rfl rfl fun v7_8 Hs7_8 hR7_8 => ?_
    obtain ⟨lv2, L2, Y2, e2, rfl, rfl, ho2, hY2, he2⟩ := hR7_8
    refine WL.to5 ?_
    refine WL.nil ?_
    refine WE.toG0 (by kernel_rfl) ?_
    refine WG.p 9 rfl (.inl (by kernel_rfl)) (fun w0 => oq_move rfl) rfl rfl rfl ?_
    refine WG.p 10 rfl (.inl (by kernel_rfl)) (fun w0 => oq_extract rfl rfl) rfl rfl rfl ?_
    refine WG.p 11 rfl (.inl (by kernel_rfl)) (fun w0 => oq_extract rfl rfl) rfl rfl rfl ?_
    refine WG.p 12 rfl (.inl (by kernel_rfl)) (fun w0 => oq_extract rfl rfl) rfl rfl rfl ?_
    refine WG.step (i := 14) (by kernel_rfl) rfl ?_
    refine WL.f5 ?_
    refine WL.storeS #[_, _] ty183 rfl rfl rfl rfl (Nat.le_of_ble_eq_true rfl) rfl rfl ?_
    refine WL.nil ?_
    refine WE.toG0 (by kernel_rfl) ?_
    refine WG.step (i := 15) (by kernel_rfl) rfl ?_
    refine WL.f6 ?_
    refine WL.storeS #[_] ty59 rfl rfl rfl rfl (Nat.le_of_ble_eq_true rfl) rfl rfl ?_
    refine WL.nil ?_
    refine WE.toG0 (by kernel_rfl) ?_
    refine WG.p 16 rfl (.inl (by kernel_rfl)) (fun w0 => oq_assign rfl) rfl rfl rfl ?_
    refine WG.done (by kernel_rfl) ?_
    refine WE.f7 ?_
    refine WE.f2 ?_
    refine WE.f2 ?_
    refine WE.f7 ?_
    refine WE.f7 ?_
    refine WE.f7 ?_
    refine WE.f7 ?_
    refine WE.f7 ?_
    refine WE.meet (_, _, _, _, _) ?_ ⟨rfl, rfl, rfl, trivial⟩ (List.Perm.refl _)
    try dsimp only
    exact ⟨ho2, hY2, he2, ho16⟩
  ·rintro ⟨lv2, L2, Y2, e2, o16⟩ hp
   try dsimp only at hp
   obtain ⟨ho2, hY2, he2, ho16⟩ := hp
   show WC _ _ _ _ _ _ ([(9, Pt o9 0), (10, e2), (16, Pt o16 0)]) ([CS K.cb lv2 K.stop K.fail, L2, KB K.kb (Tr K.stop (x.id :: (r.map Nd.id ++ ids))).2, X, Y2, [(o9, Obj.cells #[.map none] 59 (0, 0))], [(o16, Obj.cells #[.nilIface, .nilIface] 183 (0, 0))], R0])
   refine WC.seq ?_
   refine WC.gate 5 ([(o16, Obj.cells #[.nilIface, .nilIface] 183 (0, 0))]) (by kernel_rfl) ?_
   refine WG.q 0 [] rfl (.tail _ (.tail _ (.tail _ (.tail _ (.tail _ (.tail _ (.head _))))))) (fun w0 => oq_fieldAddr fld183_1 rfl) rfl rfl rfl ?_
   refine WG.q 1 [] rfl (.tail _ (.tail _ (.tail _ (.tail _ (.tail _ (.tail _ (.head _))))))) (fun w0 => oq_load flat20 rfl (.head _) (List.mem_singleton.2 rfl) rfl) rfl rfl rfl ?_
   refine WG.p 3 rfl (.inr (.tail _ (.tail _ (.tail _ (.tail _ (.tail _ (.tail _ (.head _)))))))) (fun w0 => oq_move rfl) rfl rfl rfl ?_
   refine WG.q 4 [] rfl (.tail _ (.tail _ (.tail _ (.tail _ (.tail _ (.tail _ (.head _))))))) (fun w0 => oq_assign rfl) rfl rfl rfl ?_
   refine WG.step (i := 2) (by kernel_rfl) rfl ?_
   refine WL.q (oq_loadS [_] agg59 ty59 rfl (.tail _ (.tail _ (.tail _ (.tail _ (.tail _ (.head _)))))) (List.mem_singleton.2 rfl) rfl rfl) rfl rfl rfl ?_
   refine WL.nil ?_
   refine WE.toG (.tail _ (.tail _ (.tail _ (.tail _ (.tail _ (.tail _ (.head _))))))) ?_
   refine WG.step (i := 5) (by kernel_rfl) rfl ?_
   refine WL.f5 ?_
   refine WL.storeS #[_] ty59 rfl rfl rfl rfl (Nat.le_of_ble_eq_true rfl) rfl rfl ?_
   refine WL.nil ?_
   refine WE.toG0 (by kernel_rfl) ?_
   refine WG.p 6 rfl (.inl (by kernel_rfl)) (fun w0 => oq_assign rfl) rfl rfl rfl ?_
   refine WG.done (by kernel_rfl) ?_
   refine WE.then_normal (WC.sub (fr' := [(8, _), (9, _), (10, _)]) ?_ ⟨rfl, rfl, rfl, trivial⟩)
   refine WC.ret ?_
   refine WE.endDW [_, _, _, _, _] (.inl rfl) (rs3 Tryz.results174 (rv_tmp rfl) (rv_cellS [_] agg59 ty59 rfl (.head _) (List.mem_singleton.2 rfl) rfl rfl) (rv_tmp rfl)) (dr_lose ho9 (dr_f5 (dr_lose ho16 dr_refl))) ?_
   exact crSame (ov' := .nilIface) ho2 hY2 he2
theorem step4 {base sb b3 : Nat} {K : KE} {X Y : Hp} {ids : List (List UInt8)} {hk : TypeId} {hv : Value} (hY : ∀ b o, (b, o) ∈ Y → base ≤ b) (hd : HD base K "Handle" .nilIface X Y (.iface hk hv) .nilIface ids) (hX3 : (b3, Obj.cells #[Pt K.cb 0] 54 (0, 0)) ∈ X) (its : List Nd)
  (hr : ∀ z ∈ its, Okn 4 b3 X z ∧ z.id.length ≤ 100000) (hfr : ∀ z ∈ its, base ≤ z.b) (hsb : base ≤ sb) : HC base K 174 [Pt sb 0, CTX, .nilIface, .iface hk hv] X (stg 4 sb NR its ++ Y) .nilIface (its.map Nd.id ++ ids) := by
 intro l lv L ho hl
 cases its with
 | nil =>
  refine (step0_4 base sb K X Y ids hk hv hY hd l lv L ho hl).reg (by simp [stg, ch, scells, hdp, lastp]; rfl) ?_
  rintro v Hs ⟨lv2, L2, Y2, e2, s, rfl, rfl, h1, h2, h3, h4⟩
  exact ⟨_, ⟨lv2, L2, s ++ Y2, e2, rfl, rfl, h1, fresh_cat (fun b o hb => by rw [h4 b o hb]; exact hsb) h2, h3⟩, by simp⟩
 | cons x r =>
  obtain h | ⟨A1, y, h⟩ := nd_ends (x :: r)
  ·cases h
  ·have hl2 : lastp (x :: r) = Pt y.b 0 := by rw [h, lastp_snoc]
   have e : stg 4 sb NR (x :: r) = [(sb, .cells #[Pt x.b 0, Pt y.b 0] 226 (0, 0))] ++ (ch 224 228 247 A1 (.iface 224 (Pt y.b 0)) ++ [(y.b, Obj.cells #[.nilIface, wv 247 y] 228 (0, 0))]) := by
    show [(sb, Obj.cells (scells 4 (hdp (x :: r)) (lastp (x :: r)) NR) _ _)] ++ ch _ _ _ (x :: r) _ = _
    rw [hl2]
    congr 1
    rw [h, ch_app]; rfl
   refine (stepC_4 base sb b3 K X Y ids hk hv hY hd x y r A1 h hX3 hr hfr hsb l lv L ho hl).reg ?_ (fun v Hs hh => ⟨Hs, hh, List.Perm.refl _⟩)
   rw [e]
   exact regI
end SL
end Go.Proofs.YtiegaefkahnfjaaGreat
