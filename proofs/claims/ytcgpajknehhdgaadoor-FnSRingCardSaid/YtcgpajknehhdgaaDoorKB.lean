/- Walks of the reading of a ring into a buffer. -/
import Derived.Test.YtcgpajknehhdgaaDoorKA
import Derived.Test.YtcgpajknehhdgaaDoorK9
namespace Go.Proofs.YtcgpajknehhdgaaDoor
open Go Go.RowKit V K9 KA
set_option linter.unusedSimpArgs false
set_option linter.unusedVariables false
set_option maxRecDepth 10000
namespace KB
theorem call65 : Callable Tryd.prog 65 := ⟨_, Tryd.func65, rfl, by kernel_rfl⟩
theorem call66 : Callable Tryd.prog 66 := ⟨_, Tryd.func66, rfl, by kernel_rfl⟩
theorem call81 : Callable Tryd.prog 81 := ⟨_, Tryd.func81, rfl, by kernel_rfl⟩
theorem call159 : Callable Tryd.prog 159 := ⟨_, Tryd.func159, rfl, by kernel_rfl⟩
theorem flat3 : Flat Tryd.prog 3 := ⟨_, Tryd.underlying3, by simp⟩
theorem flat22 : Flat Tryd.prog 22 := ⟨_, Tryd.underlying22, by simp⟩
theorem flat53 : Flat Tryd.prog 53 := ⟨_, Tryd.underlying53, by simp⟩
theorem ty3 : Ty Tryd.prog 3 (.int .i64 0) 1 8 := ty_of (by kernel_rfl)
theorem ty5 : Ty Tryd.prog 5 (.int .u8 0) 1 1 := ty_of (by kernel_rfl)
theorem ty22 : Ty Tryd.prog 22 (.slice none 0 0) 1 24 := ty_of (by kernel_rfl)
theorem ty94 : Ty Tryd.prog 94 (.int .i8 0) 1 1 := ty_of (by kernel_rfl)
theorem ty96 : Ty Tryd.prog 96 (.agg #[(.slice none 0 0), (.int .i64 0), (.int .i8 0)]) 3 40 := ty_of (by kernel_rfl)
theorem conc65 : Conc Tryd.prog 65 := ⟨_, Tryd.underlying65, by simp⟩
theorem conc98 : Conc Tryd.prog 98 := ⟨_, Tryd.underlying98, by simp⟩
theorem fld96_0 : Fld Tryd.prog 96 0 0 22 := fld_of Tryd.underlying96 rfl rfl rfl ty22 (by decide)
theorem fld96_1 : Fld Tryd.prog 96 1 1 3 := fld_of Tryd.underlying96 rfl rfl rfl ty3 (by decide)
theorem fld96_2 : Fld Tryd.prog 96 2 2 94 := fld_of Tryd.underlying96 rfl rfl rfl ty94 (by decide)

theorem rread_ (base rb sb n : Nat) (l : List UInt8) (st en : Nat) (h : List UInt8) (hln : l.length = n) (hn : n ≤ 1000000) (hr : Ring l st en h) (pb off m c : Nat) (L : List UInt8) (hm : off + m ≤ L.length) (hmc : m ≤ c) (hmb : m ≤ 9223372036854775807) (A : Hp) (kE : TypeId) (pE : Addr) (hE : Eof A kE pE) :
    FnW Tryd.prog 44 [Pt rb 0, Sl pb off m c] base [[(rb, .cells #[Sl sb 0 n n, I (st : Int), I (en : Int), I (h.length : Int)] 92 (0, 0))], Bf sb 5 l, Bf pb 5 L, A] (fun w Hs => ∃ (st2 k : Nat) (eo : Bool), k = min m h.length ∧ eo = decide (h.length < m) ∧ w = .tuple #[I (k : Int), eofv kE pE eo] ∧ Hs = [[(rb, .cells #[Sl sb 0 n n, I (st2 : Int), I (en : Int), I ((h.drop k).length : Int)] 92 (0, 0))], Bf sb 5 l, Bf pb 5 (putB L off (h.take k)), A] ∧ Ring l st2 en (h.drop k)) := by
  have := rread base rb sb n l st en h hln hn hr pb off m c L hm hmc hmb A kE pE hE
  rw [putB_nil] at this
  refine this.mono ?_
  rintro v Hs ⟨st2, rfl, rfl, h3⟩
  exact ⟨st2, _, _, rfl, rfl, rfl, by rw [List.length_drop], h3⟩
theorem inv65_Read : Inv1 Tryd.prog 65 "Read" 44 := fun x a w => by kernel_rfl
theorem nok65_Read (p : Addr) : NilOk Tryd.prog 65 (.pointer (some p)) "Read" := fun w => by kernel_rfl
theorem inv98_ReadFrom : Inv1 Tryd.prog 98 "ReadFrom" 153 := fun x a w => by kernel_rfl
theorem ask65 : AskNo Tryd.prog 65 129 := by
  cases h1 : Tryd.prog.info? 65 with
  | none => have h : (Tryd.prog.info? 65).isSome = true := by kernel_rfl
            rw [h1] at h; cases h
  | some inf =>
    cases h2 : Tryd.prog.info? 129 with
    | none => have h : (Tryd.prog.info? 129).isSome = true := by kernel_rfl
              rw [h2] at h; cases h
    | some i2 =>
      refine askNo Tryd.underlying129 h1 ?_ h2 ?_
      · have h : (Tryd.prog.info? 65).map (fun inf => ([("WriteTo", 131)].filter fun (x : String × TypeId) => !inf.methods.any fun m => m.name == x.1 && m.sig == x.2).isEmpty) = some false := by kernel_rfl
        rw [h1] at h; exact Option.some.inj h
      · have h : (Tryd.prog.info? 129).map (·.zero) = some (some .nilIface) := by kernel_rfl
        rw [h2] at h; exact Option.some.inj h
theorem ask98 : AskYes Tryd.prog 98 133 := fun x u w => by kernel_rfl
theorem oq_eofEq {n : Nat} {w0 : World} {ds : List Deferred} {fr : Fr} {H : List Hp} {dst : Option Tmp} {ty : TypeId} {pos : String} {aft : Array Edge} {g : Option (Nat × Bool)} {t t' k e : TypeId} {ms : Array (String × TypeId)} {p : Addr} {eo : Bool} {x y : Operand} (hk : Comp Tryd.prog k e) (ht : Tryd.prog.underlying t = some (.interface ms)) (hx : ev fr x = some (eofv k p eo)) (hy : ev fr y = some (.iface k (.pointer (some p)))) : OV Tryd.prog n w0 ⟨dst, .binOp .eql t x y t', ty, pos, aft, g⟩ (.bool eo) ds fr H := by
  cases eo with
  | true => exact oq_isame hk ht hx hy
  | false =>
    refine oq_of_run fun a w hf _ => ?_
    have he : (Op.equal t .nilIface (.iface k (.pointer (some p)))).run Tryd.prog w = .ok false w := by
      unfold Op.equal Op.maxDepth Op.equalIn
      rw [Sem.run_bind, run_underlying ht]; rfl
    have hx' : a.eval x = .nilIface := hf.eval hx
    simp [execOp, hx', hf.eval hy, eqGuard, binOp, he]
theorem putB_take (L h : List UInt8) (i k : Nat) (hi : i ≤ h.length) (hL : L.take i = h.take i) : (putB L i ((h.drop i).take k)).take (i + k) = h.take (i + k) ∨ h.length < i + k := by
  rcases Nat.lt_or_ge h.length (i + k) with e | e
  · exact .inr e
  · have e1 : (h.take i ++ (h.drop i).take k).length = i + k := by simp; omega
    exact .inl (by unfold putB; rw [hL, List.take_left' e1, List.take_add])
/-- (*bytes.Buffer).ReadFrom -/
theorem readFrom (base bb rb sb n : Nat) (l : List UInt8) (st en : Nat) (h : List UInt8) (hln : l.length = n) (hn : n ≤ 1000000) (hr : Ring l st en h) (A : Hp) (kE : TypeId) (pE : Addr) (hE : Eof A kE pE) (hhn : h.length ≤ 80000) (lr : Int) : FnW Tryd.prog 153 [Pt bb 0, .iface 65 (Pt rb 0)] base [[(bb, .cells #[.slice none 0 0, I 0, .int .i8 lr] 96 (0, 0))], [(rb, .cells #[Sl sb 0 n n, I ((st : Nat) : Int), I ((en : Nat) : Int), I ((h).length : Int)] 92 (0, 0))], Bf sb 5 l, A] (fun w Hs => ∃ (B cap : Nat) (L : List UInt8) (s2 : Nat), w = .tuple #[I (h.length : Int), .nilIface] ∧ Hs = [[(bb, .cells #[Sl B 0 h.length cap, I 0, .int .i8 0] 96 (0, 0))], Bf B 5 L, [(rb, .cells #[Sl sb 0 n n, I (s2 : Int), I (en : Int), I 0] 92 (0, 0))], Bf sb 5 l, A] ∧ base ≤ B ∧ L.length = cap ∧ h.length ≤ cap ∧ 0 < cap ∧ cap ≤ maxLen ∧ L.take h.length = h) := by
  obtain ⟨tE, fE, hEm⟩ := hE.eof
  obtain ⟨eE, hcomp⟩ := hE.comp
  have hmy : maxLen ≤ 9223372036854775807 := by unfold maxLen; omega
  refine FnW.enter (n := 67) Tryd.func153 rfl rfl fun w0 R0 hbase => ?_
  subst hbase
  show WC _ _ _ _ _ _ _ ([[(bb, .cells #[.slice none 0 0, I 0, .int .i8 lr] 96 (0, 0))], [(rb, .cells #[Sl sb 0 n n, I ((st : Nat) : Int), I ((en : Nat) : Int), I ((h).length : Int)] 92 (0, 0))], Bf sb 5 l, A, R0])
  refine WC.sub (fr' := [(0, _), (1, _)]) ?_ ⟨rfl, rfl, trivial⟩
  refine WC.seq ?_
  refine WC.region ?_
  refine WL.q (oq_assign rfl) rfl rfl rfl ?_
  refine WL.q (oq_assign rfl) rfl rfl rfl ?_
  refine WL.nil ?_
  refine WE.then_normal ?_
  refine WC.sub (fr' := [(0, _), (1, _), (4, _)]) ?_ ⟨rfl, rfl, rfl, trivial⟩
  refine WC.seq ?_
  refine WC.add0 ?_
  refine WC.region ?_
  refine WL.q (oq_move rfl) rfl rfl rfl ?_
  refine WL.q (oq_nilCheck rfl) rfl rfl rfl ?_
  refine WL.q (oq_fieldAddr fld96_2 rfl) rfl rfl rfl ?_
  refine WL.f1 ?_
  refine WL.store1 #[_, _, _] ty94 rfl rfl (by first | rfl | exact OwS.one one_) (Nat.lt_of_lt_of_le (Nat.lt_succ_self _) (Nat.le_of_ble_eq_true rfl)) rfl rfl ?_
  refine WL.nil ?_
  refine WE.then_normal ?_
  refine WC.sub (fr' := [(0, _), (1, _), (4, _)]) ?_ ⟨rfl, rfl, rfl, trivial⟩
  refine WC.block ?_
  refine WC.loop (ι := Nat × Value × Hp × Nat) (fun i_ => (fun (i : Nat) (v : Value) (M : Hp) (s1 : Nat) => [(0, Pt bb 0), (1, .iface 65 (Pt rb 0)), (4, I (i : Int))]) i_.1 i_.2.1 i_.2.2.1 i_.2.2.2) (fun i_ => (fun (i : Nat) (v : Value) (M : Hp) (s1 : Nat) => [[(bb, .cells #[v, I 0, .int .i8 0] 96 (0, 0))], M, [(rb, .cells #[Sl sb 0 n n, I ((s1 : Nat) : Int), I ((en : Nat) : Int), I ((h.drop i).length : Int)] 92 (0, 0))], Bf sb 5 l, A, R0]) i_.1 i_.2.1 i_.2.2.1 i_.2.2.2) (fun i_ => (fun (i : Nat) (v : Value) (M : Hp) (s1 : Nat) => i ≤ h.length ∧ Buf w0.heap.size v M (h.take i) ∧ Ring l s1 en (h.drop i)) i_.1 i_.2.1 i_.2.2.1 i_.2.2.2) (fun i_ => (fun (i : Nat) (v : Value) (M : Hp) (s1 : Nat) => h.length - i) i_.1 i_.2.1 i_.2.2.1 i_.2.2.2) ((0, _, _, st)) ?_ ⟨rfl, rfl, rfl, trivial⟩ (List.Perm.refl _) ?_
  · try dsimp only
    exact ⟨by omega, .inl ⟨rfl, rfl, rfl⟩, hr⟩
  · rintro ⟨i, v, M, s1⟩ hp
    try dsimp only at hp
    obtain ⟨hi, hbuf, hr1⟩ := hp
    show WC _ _ _ _ _ _ ([(0, Pt bb 0), (1, .iface 65 (Pt rb 0)), (4, I (i : Int))]) ([[(bb, .cells #[v, I 0, .int .i8 0] 96 (0, 0))], M, [(rb, .cells #[Sl sb 0 n n, I ((s1 : Nat) : Int), I ((en : Nat) : Int), I ((h.drop i).length : Int)] 92 (0, 0))], Bf sb 5 l, A, R0])
    have hti : (h.take i).length = i := by rw [List.length_take]; omega
    have hdi : (h.drop i).length = h.length - i := List.length_drop
    refine WC.block ?_
    refine WC.seq ?_
    refine WC.region ?_
    refine WL.q (oq_move rfl) rfl rfl rfl ?_
    refine WL.f1 ?_
    refine WL.f1 ?_
    refine WL.callW2 (grow _ bb 0 v M (h.take i) hbuf (by omega)) call159 rfl rfl rfl fun v2_1 Hs2_1 hR2_1 => ?_
    obtain ⟨B, cap, L, rfl, rfl, hB, hL, hc, hm, ht⟩ := hR2_1
    rw [hti] at hc ht ⊢
    refine WL.to2 ?_
    refine WL.q (oq_assign rfl) rfl rfl rfl ?_
    refine WL.nil ?_
    refine WE.then_normal ?_
    refine WC.sub (fr' := [(0, _), (1, _), (4, _), (6, _)]) ?_ ⟨rfl, rfl, rfl, rfl, trivial⟩
    refine WC.seq ?_
    refine WC.region ?_
    refine WL.q (oq_move rfl) rfl rfl rfl ?_
    refine WL.q (oq_move rfl) rfl rfl rfl ?_
    refine WL.q (oq_nilCheck rfl) rfl rfl rfl ?_
    refine WL.q (oq_fieldAddr fld96_0 rfl) rfl rfl rfl ?_
    refine WL.q (oq_load flat22 rfl (.head _) (List.mem_singleton.2 rfl) rfl) rfl rfl rfl ?_
    refine WL.q (oq_move rfl) rfl rfl rfl ?_
    refine WL.q (oq_sliceSl (j := i) Tryd.underlying22 ty5 rfl (by omega) rfl ⟨_, rfl⟩ (by omega) (by omega)) rfl rfl rfl ?_
    refine WL.q (oq_nilCheck rfl) rfl rfl rfl ?_
    refine WL.q (oq_fieldAddr fld96_0 rfl) rfl rfl rfl ?_
    refine WL.store1 #[_, _, _] ty22 rfl rfl (by first | rfl | exact OwS.one one_) (Nat.lt_of_lt_of_le (Nat.lt_succ_self _) (Nat.le_of_ble_eq_true rfl)) rfl rfl ?_
    refine WL.nil ?_
    refine WE.then_normal ?_
    refine WC.sub (fr' := [(0, _), (1, _), (4, _), (6, _)]) ?_ ⟨rfl, rfl, rfl, rfl, trivial⟩
    refine WC.seq ?_
    refine WC.tailM (pl := []) (ql := [_, _, _, _, _, _, _, _, _, _, _, _, _, _, _]) (tl := [_, _, _, _, _, _]) [] [0, 1, 2, 3, 4, 5, 6, 7, 8, 9, 10, 11, 12, 13, 14] 15 [16, 17, 18, 19, 20] (by kernel_rfl) (by kernel_rfl) (by kernel_rfl) (by kernel_rfl) (by kernel_rfl) (by kernel_rfl) (by decide) rfl rfl rfl (by decide) (by repeat (first | with_reducible exact QOk.body | with_reducible apply QOk.then | with_reducible apply QOk.block | exact QOk.body | apply QOk.then | apply QOk.block)) ?_
    refine WM.nil ?_
    refine WY.q (oq_move rfl) rfl rfl rfl ?_
    refine WY.q (oq_move rfl) rfl rfl rfl ?_
    refine WY.q (oq_nilCheck rfl) rfl rfl rfl ?_
    refine WY.q (oq_fieldAddr fld96_0 rfl) rfl rfl rfl ?_
    refine WY.q (oq_load flat22 rfl (.head _) (List.mem_singleton.2 rfl) rfl) rfl rfl rfl ?_
    refine WY.q (oq_move rfl) rfl rfl rfl ?_
    refine WY.q (oq_move rfl) rfl rfl rfl ?_
    refine WY.q (oq_nilCheck rfl) rfl rfl rfl ?_
    refine WY.q (oq_fieldAddr fld96_0 rfl) rfl rfl rfl ?_
    refine WY.q (oq_load flat22 rfl (.head _) (List.mem_singleton.2 rfl) rfl) rfl rfl rfl ?_
    refine WY.q (oq_cap_sl Tryd.underlying22 rfl) rfl rfl rfl ?_
    refine WY.q (oq_sliceSl (i := i) (j := cap) Tryd.underlying22 ty5 rfl (by omega) ⟨_, rfl⟩ ⟨_, rfl⟩ (by omega) (by omega)) rfl rfl rfl ?_
    refine WY.q (oq_makeMeth rfl) rfl rfl rfl ?_
    refine WY.q (oq_nilMeth rfl (nok65_Read _)) rfl rfl rfl ?_
    refine WY.q (oq_move rfl) rfl rfl rfl ?_
    refine WY.nil ?_
    refine WL.f4 ?_
    refine WL.f2 ?_
    refine WL.f4 ?_
    refine WL.f4 ?_
    refine WL.callWE (fun a w hf => ent_inv1 inv65_Read rfl rfl hf w) (rread_ _ rb sb n l s1 en (h.drop i) hln hn hr1 B (0 + 0 + i) (cap - i) (cap - 0 - i) L (by omega) (by omega) (by omega) A kE pE hE) rfl rfl rfl rfl fun v4_15 Hs4_15 hR4_15 => ?_
    obtain ⟨s2, k, eo, hk, heo, rfl, rfl, hr2⟩ := hR4_15
    refine WL.app4 ?_
    refine WL.q (oq_move rfl) rfl rfl rfl ?_
    refine WL.q (oq_extract rfl rfl) rfl rfl rfl ?_
    refine WL.q (oq_extract rfl rfl) rfl rfl rfl ?_
    refine WL.q (oq_assign rfl) rfl rfl rfl ?_
    refine WL.q (oq_assign rfl) rfl rfl rfl ?_
    refine WL.nil ?_
    refine WE.then_normal ?_
    refine WC.sub (fr' := [(0, _), (1, _), (4, _), (6, _), (7, _), (8, _)]) ?_ ⟨rfl, rfl, rfl, rfl, rfl, rfl, trivial⟩
    refine WC.seq ?_
    refine WC.seq ?_
    refine WC.region ?_
    refine WL.q (oq_move rfl) rfl rfl rfl ?_
    refine WL.q (oq_lss rfl rfl) rfl rfl rfl ?_
    refine WL.nil ?_
    refine WE.then_normal ?_
    refine WC.sub (fr' := [(0, _), (1, _), (4, _), (6, _), (7, _), (8, _), (43, _)]) ?_ ⟨rfl, rfl, rfl, rfl, rfl, rfl, rfl, trivial⟩
    refine WC.cond rfl (fun q5 => ?_) (fun q5 => ?_)
    ·
      try simp only [Bool.not_eq_eq_eq_not, Bool.not_true, Bool.not_false, decide_eq_true_eq, decide_eq_false_iff_not, Int.not_lt, Int.not_le, ne_eq, Decidable.not_not, ← List.length_eq_zero_iff] at q5
      first | contradiction | (exfalso; omega) | (exfalso; simp_all; done)
    ·
      try simp only [Bool.not_eq_eq_eq_not, Bool.not_true, Bool.not_false, decide_eq_true_eq, decide_eq_false_iff_not, Int.not_lt, Int.not_le, ne_eq, Decidable.not_not, ← List.length_eq_zero_iff] at q5
      refine WC.skip ?_
      refine WE.then_normal ?_
      refine WC.sub (fr' := [(0, _), (1, _), (4, _), (6, _), (7, _), (8, _)]) ?_ ⟨rfl, rfl, rfl, rfl, rfl, rfl, trivial⟩
      refine WC.seq ?_
      refine WC.region ?_
      refine WL.q (oq_move rfl) rfl rfl rfl ?_
      refine WL.q (oq_move rfl) rfl rfl rfl ?_
      refine WL.q (oq_nilCheck rfl) rfl rfl rfl ?_
      refine WL.q (oq_fieldAddr fld96_0 rfl) rfl rfl rfl ?_
      refine WL.q (oq_load flat22 rfl (.tail _ (.tail _ (.tail _ (.tail _ (.head _))))) (List.mem_singleton.2 rfl) rfl) rfl rfl rfl ?_
      refine WL.q (oq_move rfl) rfl rfl rfl ?_
      refine WL.q (oq_move rfl) rfl rfl rfl ?_
      refine WL.q (oq_add rfl rfl (by rw [i64_lo, i64_hi]; (first | omega | (simp only [List.length_cons, List.length_nil, List.length_append, List.length_drop, List.length_take]; omega)))) rfl rfl rfl ?_
      refine WL.q (oq_sliceSl (j := (i + k)) Tryd.underlying22 ty5 rfl (by omega) rfl ⟨_, rfl⟩ (by omega) (by omega)) rfl rfl rfl ?_
      refine WL.q (oq_nilCheck rfl) rfl rfl rfl ?_
      refine WL.q (oq_fieldAddr fld96_0 rfl) rfl rfl rfl ?_
      refine WL.f4 ?_
      refine WL.store1 #[_, _, _] ty22 rfl rfl (by first | rfl | exact OwS.one one_) (Nat.lt_of_lt_of_le (Nat.lt_succ_self _) (Nat.le_of_ble_eq_true rfl)) rfl rfl ?_
      refine WL.nil ?_
      refine WE.then_normal ?_
      refine WC.sub (fr' := [(0, _), (1, _), (4, _), (7, _), (8, _)]) ?_ ⟨rfl, rfl, rfl, rfl, rfl, trivial⟩
      refine WC.seq ?_
      refine WC.region ?_
      refine WL.q (oq_move rfl) rfl rfl rfl ?_
      refine WL.q (oq_move rfl) rfl rfl rfl ?_
      refine WL.q (oq_add rfl rfl (by rw [i64_lo, i64_hi]; (first | omega | (simp only [List.length_cons, List.length_nil, List.length_append, List.length_drop, List.length_take]; omega)))) rfl rfl rfl ?_
      refine WL.q (oq_assign rfl) rfl rfl rfl ?_
      refine WL.nil ?_
      refine WE.then_normal ?_
      refine WC.sub (fr' := [(0, _), (1, _), (4, _), (8, _)]) ?_ ⟨rfl, rfl, rfl, rfl, trivial⟩
      refine WC.seq ?_
      refine WC.seq ?_
      refine WC.region ?_
      refine WL.q (oq_move rfl) rfl rfl rfl ?_
      refine WL.q (oq_load flat53 rfl (.tail _ (.tail _ (.tail _ (.tail _ (.head _))))) hEm rfl) rfl rfl rfl ?_
      refine WL.q (oq_eofEq hcomp Tryd.underlying53 rfl rfl) rfl rfl rfl ?_
      refine WL.nil ?_
      refine WE.then_normal ?_
      refine WC.sub (fr' := [(0, _), (1, _), (4, _), (8, _), (61, _)]) ?_ ⟨rfl, rfl, rfl, rfl, rfl, trivial⟩
      refine WC.cond rfl (fun q9 => ?_) (fun q9 => ?_)
      ·
        try simp only [Bool.not_eq_eq_eq_not, Bool.not_true, Bool.not_false, decide_eq_true_eq, decide_eq_false_iff_not, Int.not_lt, Int.not_le, ne_eq, Decidable.not_not, ← List.length_eq_zero_iff] at q9
        refine WC.seq ?_
        refine WC.region ?_
        refine WL.q (oq_move rfl) rfl rfl rfl ?_
        refine WL.q (oq_assign rfl) rfl rfl rfl ?_
        refine WL.q (oq_assign rfl) rfl rfl rfl ?_
        refine WL.nil ?_
        refine WE.then_normal ?_
        refine WC.sub (fr' := [(4, _), (5, _)]) ?_ ⟨rfl, rfl, trivial⟩
        refine WC.ret ?_
        refine WE.then_ret ?_
        refine WE.block_ret ?_
        refine WE.then_ret ?_
        refine WE.block_ret ?_
        refine WE.f5 ?_
        refine WE.f5 ?_
        refine WE.f4 ?_
        refine WE.f4 ?_
        refine WE.f5 ?_
        refine WE.f5 ?_
        refine WE.endW5 (.inl rfl) (res2 Tryd.results153 rfl rfl) ?_
        -- end 0
        have hlt : (h.drop i).length < cap - i := by rw [q9] at heo; exact of_decide_eq_true heo.symm
        have hpl : (putB L (0 + 0 + i) ((h.drop i).take k)).length = cap := by rw [putB_len _ _ _ (by rw [List.length_take]; omega), hL]
        have hpt : (putB L (0 + 0 + i) ((h.drop i).take k)).take (i + k) = h.take (i + k) := by
          simp only [Nat.zero_add]; rcases putB_take L h i k hi ht with e | e
          · exact e
          · omega
        have hkh : i + k = h.length := by omega
        rw [hkh, List.take_length] at hpt
        refine ⟨B, cap, _, s2, ?_, ?_, hB, hpl, by omega, by omega, hm, hpt⟩
        · rw [show ((i : Int) + (k : Int)) = (h.length : Int) by omega]
        · rw [show (List.drop k (List.drop i h)).length = 0 by rw [List.length_drop]; omega, hkh]; rfl
      ·
        try simp only [Bool.not_eq_eq_eq_not, Bool.not_true, Bool.not_false, decide_eq_true_eq, decide_eq_false_iff_not, Int.not_lt, Int.not_le, ne_eq, Decidable.not_not, ← List.length_eq_zero_iff] at q9
        refine WC.skip ?_
        refine WE.then_normal ?_
        refine WC.sub (fr' := [(0, _), (1, _), (4, _), (8, _)]) ?_ ⟨rfl, rfl, rfl, rfl, trivial⟩
        refine WC.seq ?_
        refine WC.region ?_
        refine WL.q (oq_move rfl) rfl rfl rfl ?_
        refine WL.q (oq_ineq Tryd.underlying53 rfl (eofv_or kE pE eo)) rfl rfl rfl ?_
        refine WL.nil ?_
        refine WE.then_normal ?_
        refine WC.sub (fr' := [(0, _), (1, _), (4, _), (8, _), (64, _)]) ?_ ⟨rfl, rfl, rfl, rfl, rfl, trivial⟩
        refine WC.cond rfl (fun q11 => ?_) (fun q11 => ?_)
        ·
          try simp only [Bool.not_eq_eq_eq_not, Bool.not_true, Bool.not_false, decide_eq_true_eq, decide_eq_false_iff_not, Int.not_lt, Int.not_le, ne_eq, Decidable.not_not, ← List.length_eq_zero_iff] at q11
          refine WC.seq ?_
          exfalso; rw [eofv_nil] at q11; simp_all
        ·
          try simp only [Bool.not_eq_eq_eq_not, Bool.not_true, Bool.not_false, decide_eq_true_eq, decide_eq_false_iff_not, Int.not_lt, Int.not_le, ne_eq, Decidable.not_not, ← List.length_eq_zero_iff] at q11
          refine WC.skip ?_
          refine WE.block_normal ?_
          have hge : ¬ ((h.drop i).length < cap - i) := by rw [q9] at heo; exact of_decide_eq_false heo.symm
          have hpl : (putB L (0 + 0 + i) ((h.drop i).take k)).length = cap := by rw [putB_len _ _ _ (by rw [List.length_take]; omega), hL]
          have hpt : (putB L (0 + 0 + i) ((h.drop i).take k)).take (i + k) = h.take (i + k) := by
            simp only [Nat.zero_add]; rcases putB_take L h i k hi ht with e | e
            · exact e
            · omega
          have hr3 := hr2
          rw [List.drop_drop] at hr3 ⊢
          refine WE.f5 ?_
          refine WE.f5 ?_
          refine WE.f4 ?_
          refine WE.f4 ?_
          refine WE.f5 ?_
          refine WE.f5 ?_
          refine WE.again (i + k, _, _, s2) ?_ ?_ ⟨rfl, rfl, rfl, trivial⟩ (List.Perm.refl _)
          · try dsimp only   -- again 0
            refine ⟨by omega, .inr ⟨B, cap, putB L (0 + 0 + i) _, ?_, rfl, hB, hpl, ?_, by omega, hm, ?_⟩, hr3⟩
            · rw [show (h.take (i + k)).length = i + k - 0 by rw [List.length_take]; omega]; rfl
            · rw [List.length_take]; omega
            · rw [List.length_take, show min (i + k) h.length = i + k by omega]; exact hpt
          · (try dsimp only); omega

/-- io.copyBuffer -/
theorem copyBuffer (base bb rb sb n : Nat) (l : List UInt8) (st en : Nat) (h : List UInt8) (hln : l.length = n) (hn : n ≤ 1000000) (hr : Ring l st en h) (A : Hp) (kE : TypeId) (pE : Addr) (hE : Eof A kE pE) (hhn : h.length ≤ 80000) (lr : Int) : FnW Tryd.prog 81 [.iface 98 (Pt bb 0), .iface 65 (Pt rb 0), .slice none 0 0] base [[(bb, .cells #[.slice none 0 0, I 0, .int .i8 lr] 96 (0, 0))], [(rb, .cells #[Sl sb 0 n n, I ((st : Nat) : Int), I ((en : Nat) : Int), I ((h).length : Int)] 92 (0, 0))], Bf sb 5 l, A] (fun w Hs => ∃ (B cap : Nat) (L : List UInt8) (s2 : Nat), w = .tuple #[I (h.length : Int), .nilIface] ∧ Hs = [[(bb, .cells #[Sl B 0 h.length cap, I 0, .int .i8 0] 96 (0, 0))], Bf B 5 L, [(rb, .cells #[Sl sb 0 n n, I (s2 : Int), I (en : Int), I 0] 92 (0, 0))], Bf sb 5 l, A] ∧ base ≤ B ∧ L.length = cap ∧ h.length ≤ cap ∧ 0 < cap ∧ cap ≤ maxLen ∧ L.take h.length = h) := by
  refine FnW.enter (n := 115) Tryd.func81 rfl rfl fun w0 R0 hbase => ?_
  subst hbase
  show WC _ _ _ _ _ _ _ ([[(bb, .cells #[.slice none 0 0, I 0, .int .i8 lr] 96 (0, 0))], [(rb, .cells #[Sl sb 0 n n, I ((st : Nat) : Int), I ((en : Nat) : Int), I ((h).length : Int)] 92 (0, 0))], Bf sb 5 l, A, R0])
  refine WC.sub (fr' := [(0, _), (1, _), (2, _)]) ?_ ⟨rfl, rfl, rfl, trivial⟩
  refine WC.seq ?_
  refine WC.region ?_
  refine WL.q (oq_assign rfl) rfl rfl rfl ?_
  refine WL.q (oq_assign rfl) rfl rfl rfl ?_
  refine WL.nil ?_
  refine WE.then_normal ?_
  refine WC.sub (fr' := [(0, _), (1, _), (2, _), (6, _), (7, _)]) ?_ ⟨rfl, rfl, rfl, rfl, rfl, trivial⟩
  refine WC.seq ?_
  refine WC.seq ?_
  refine WC.region ?_
  refine WL.q (oq_move rfl) rfl rfl rfl ?_
  refine WL.q (oq_askNo ask65 rfl) rfl rfl rfl ?_
  refine WL.q (oq_move rfl) rfl rfl rfl ?_
  refine WL.q (oq_extract rfl rfl) rfl rfl rfl ?_
  refine WL.q (oq_extract rfl rfl) rfl rfl rfl ?_
  refine WL.q (oq_assign rfl) rfl rfl rfl ?_
  refine WL.q (oq_assign rfl) rfl rfl rfl ?_
  refine WL.nil ?_
  refine WE.then_normal ?_
  refine WC.sub (fr' := [(0, _), (1, _), (2, _), (6, _), (7, _), (8, _), (9, _)]) ?_ ⟨rfl, rfl, rfl, rfl, rfl, rfl, rfl, trivial⟩
  refine WC.seq ?_
  refine WC.region ?_
  refine WL.q (oq_move rfl) rfl rfl rfl ?_
  refine WL.nil ?_
  refine WE.then_normal ?_
  refine WC.sub (fr' := [(0, _), (1, _), (2, _), (6, _), (7, _), (8, _), (24, _)]) ?_ ⟨rfl, rfl, rfl, rfl, rfl, rfl, rfl, trivial⟩
  refine WC.cond rfl (fun q2 => ?_) (fun q2 => ?_)
  ·
    try simp only [Bool.not_eq_eq_eq_not, Bool.not_true, Bool.not_false, decide_eq_true_eq, decide_eq_false_iff_not, Int.not_lt, Int.not_le, ne_eq, Decidable.not_not, ← List.length_eq_zero_iff] at q2
    refine WC.seq ?_
    first | contradiction | (exfalso; omega) | (exfalso; simp_all; done)
  ·
    try simp only [Bool.not_eq_eq_eq_not, Bool.not_true, Bool.not_false, decide_eq_true_eq, decide_eq_false_iff_not, Int.not_lt, Int.not_le, ne_eq, Decidable.not_not, ← List.length_eq_zero_iff] at q2
    refine WC.skip ?_
    refine WE.then_normal ?_
    refine WC.sub (fr' := [(0, _), (1, _), (2, _), (6, _), (7, _)]) ?_ ⟨rfl, rfl, rfl, rfl, rfl, trivial⟩
    refine WC.seq ?_
    refine WC.seq ?_
    refine WC.region ?_
    refine WL.q (oq_move rfl) rfl rfl rfl ?_
    refine WL.q (oq_askYes ask98 rfl) rfl rfl rfl ?_
    refine WL.q (oq_move rfl) rfl rfl rfl ?_
    refine WL.q (oq_extract rfl rfl) rfl rfl rfl ?_
    refine WL.q (oq_extract rfl rfl) rfl rfl rfl ?_
    refine WL.q (oq_assign rfl) rfl rfl rfl ?_
    refine WL.q (oq_assign rfl) rfl rfl rfl ?_
    refine WL.nil ?_
    refine WE.then_normal ?_
    refine WC.sub (fr' := [(0, _), (1, _), (2, _), (6, _), (7, _), (10, _), (11, _)]) ?_ ⟨rfl, rfl, rfl, rfl, rfl, rfl, rfl, trivial⟩
    refine WC.seq ?_
    refine WC.region ?_
    refine WL.q (oq_move rfl) rfl rfl rfl ?_
    refine WL.nil ?_
    refine WE.then_normal ?_
    refine WC.sub (fr' := [(0, _), (1, _), (2, _), (6, _), (7, _), (10, _), (35, _)]) ?_ ⟨rfl, rfl, rfl, rfl, rfl, rfl, rfl, trivial⟩
    refine WC.cond rfl (fun q5 => ?_) (fun q5 => ?_)
    ·
      try simp only [Bool.not_eq_eq_eq_not, Bool.not_true, Bool.not_false, decide_eq_true_eq, decide_eq_false_iff_not, Int.not_lt, Int.not_le, ne_eq, Decidable.not_not, ← List.length_eq_zero_iff] at q5
      refine WC.seq ?_
      refine WC.region ?_
      refine WL.q (oq_move rfl) rfl rfl rfl ?_
      refine WL.q (oq_move rfl) rfl rfl rfl ?_
      refine WL.f3 ?_
      refine WL.f3 ?_
      refine WL.f3 ?_
      refine WL.f3 ?_
      refine WL.callWE (fun a w hf => ent_inv1 inv98_ReadFrom rfl rfl hf w) (readFrom _ bb rb sb n l st en h hln hn hr A kE pE hE hhn lr) rfl rfl rfl rfl fun v6_2 Hs6_2 hR6_2 => ?_
      obtain ⟨B, cap, L, s2, rfl, rfl, hB, hL, hc, hc0, hm, ht⟩ := hR6_2
      refine WL.app5 ?_
      refine WL.q (oq_extract rfl rfl) rfl rfl rfl ?_
      refine WL.q (oq_extract rfl rfl) rfl rfl rfl ?_
      refine WL.q (oq_assign rfl) rfl rfl rfl ?_
      refine WL.q (oq_assign rfl) rfl rfl rfl ?_
      refine WL.nil ?_
      refine WE.then_normal ?_
      refine WC.sub (fr' := [(6, _), (7, _)]) ?_ ⟨rfl, rfl, trivial⟩
      refine WC.ret ?_
      refine WE.then_ret ?_
      refine WE.endW5 (.inl rfl) (res2 Tryd.results81 rfl rfl) ?_
      -- end 0
      exact ⟨B, cap, L, s2, rfl, rfl, hB, hL, hc, hc0, hm, ht⟩
    ·
      try simp only [Bool.not_eq_eq_eq_not, Bool.not_true, Bool.not_false, decide_eq_true_eq, decide_eq_false_iff_not, Int.not_lt, Int.not_le, ne_eq, Decidable.not_not, ← List.length_eq_zero_iff] at q5
      refine WC.skip ?_
      refine WE.then_normal ?_
      refine WC.sub (fr' := [(0, _), (1, _), (2, _), (6, _), (7, _)]) ?_ ⟨rfl, rfl, rfl, rfl, rfl, trivial⟩
      refine WC.seq ?_
      refine WC.seq ?_
      first | contradiction | (exfalso; omega) | (exfalso; simp_all; done)

/-- io.Copy -/
theorem ioCopy (base bb rb sb n : Nat) (l : List UInt8) (st en : Nat) (h : List UInt8) (hln : l.length = n) (hn : n ≤ 1000000) (hr : Ring l st en h) (A : Hp) (kE : TypeId) (pE : Addr) (hE : Eof A kE pE) (hhn : h.length ≤ 80000) (lr : Int) : FnW Tryd.prog 65 [.iface 98 (Pt bb 0), .iface 65 (Pt rb 0)] base [[(bb, .cells #[.slice none 0 0, I 0, .int .i8 lr] 96 (0, 0))], [(rb, .cells #[Sl sb 0 n n, I ((st : Nat) : Int), I ((en : Nat) : Int), I ((h).length : Int)] 92 (0, 0))], Bf sb 5 l, A] (fun w Hs => ∃ (B cap : Nat) (L : List UInt8) (s2 : Nat), w = .tuple #[I (h.length : Int), .nilIface] ∧ Hs = [[(bb, .cells #[Sl B 0 h.length cap, I 0, .int .i8 0] 96 (0, 0))], Bf B 5 L, [(rb, .cells #[Sl sb 0 n n, I (s2 : Int), I (en : Int), I 0] 92 (0, 0))], Bf sb 5 l, A] ∧ base ≤ B ∧ L.length = cap ∧ h.length ≤ cap ∧ 0 < cap ∧ cap ≤ maxLen ∧ L.take h.length = h) := by
  refine FnW.enter (n := 11) Tryd.func65 rfl rfl fun w0 R0 hbase => ?_
  subst hbase
  show WC _ _ _ _ _ _ _ ([[(bb, .cells #[.slice none 0 0, I 0, .int .i8 lr] 96 (0, 0))], [(rb, .cells #[Sl sb 0 n n, I ((st : Nat) : Int), I ((en : Nat) : Int), I ((h).length : Int)] 92 (0, 0))], Bf sb 5 l, A, R0])
  refine WC.sub (fr' := [(0, _), (1, _)]) ?_ ⟨rfl, rfl, trivial⟩
  refine WC.seq ?_
  refine WC.region ?_
  refine WL.q (oq_assign rfl) rfl rfl rfl ?_
  refine WL.q (oq_assign rfl) rfl rfl rfl ?_
  refine WL.nil ?_
  refine WE.then_normal ?_
  refine WC.sub (fr' := [(0, _), (1, _)]) ?_ ⟨rfl, rfl, trivial⟩
  refine WC.seq ?_
  refine WC.region ?_
  refine WL.q (oq_move rfl) rfl rfl rfl ?_
  refine WL.q (oq_move rfl) rfl rfl rfl ?_
  refine WL.f3 ?_
  refine WL.f3 ?_
  refine WL.f3 ?_
  refine WL.f3 ?_
  refine WL.callW4 (copyBuffer _ bb rb sb n l st en h hln hn hr A kE pE hE hhn lr) call81 rfl rfl rfl fun v1_2 Hs1_2 hR1_2 => ?_
  obtain ⟨B, cap, L, s2, rfl, rfl, hB, hL, hc, hc0, hm, ht⟩ := hR1_2
  refine WL.to5 ?_
  refine WL.q (oq_extract rfl rfl) rfl rfl rfl ?_
  refine WL.q (oq_extract rfl rfl) rfl rfl rfl ?_
  refine WL.q (oq_assign rfl) rfl rfl rfl ?_
  refine WL.q (oq_assign rfl) rfl rfl rfl ?_
  refine WL.nil ?_
  refine WE.then_normal ?_
  refine WC.sub (fr' := [(4, _), (5, _)]) ?_ ⟨rfl, rfl, trivial⟩
  refine WC.ret ?_
  refine WE.endW5 (.inl rfl) (res2 Tryd.results65 rfl rfl) ?_
  -- end 0
  exact ⟨B, cap, L, s2, rfl, rfl, hB, hL, hc, hc0, hm, ht⟩

/-- (*bytes.Buffer).Bytes -/
theorem bufBytes (bb B len cap : Nat) (lr : Int) (hlc : len ≤ cap) (hc0 : 0 < cap) : FnR Tryd.prog 66 [Pt bb 0] [(bb, .cells #[Sl B 0 len cap, I 0, .int .i8 lr] 96 (0, 0))] (Sl B 0 len cap) := by
  refine FnR.enter (n := 12) Tryd.func66 rfl rfl fun w0 => ?_
  refine WC.sub (fr' := [(0, _)]) ?_ ⟨rfl, trivial⟩
  refine WC.seq ?_
  refine WC.region ?_
  refine WL.q (oq_assign rfl) rfl rfl rfl ?_
  refine WL.nil ?_
  refine WE.then_normal ?_
  refine WC.sub (fr' := [(0, _)]) ?_ ⟨rfl, trivial⟩
  refine WC.seq ?_
  refine WC.quiet (by kernel_rfl) (by kernel_rfl) ?_
  refine WQ.q (oq_move rfl) rfl rfl rfl ?_
  refine WQ.q (oq_nilCheck rfl) rfl rfl rfl ?_
  refine WQ.q (oq_fieldAddr fld96_0 rfl) rfl rfl rfl ?_
  refine WQ.q (oq_load flat22 rfl (.head _) (List.mem_singleton.2 rfl) rfl) rfl rfl rfl ?_
  refine WQ.q (oq_move rfl) rfl rfl rfl ?_
  refine WQ.q (oq_nilCheck rfl) rfl rfl rfl ?_
  refine WQ.q (oq_fieldAddr fld96_1 rfl) rfl rfl rfl ?_
  refine WQ.q (oq_load flat3 rfl (.head _) (List.mem_singleton.2 rfl) rfl) rfl rfl rfl ?_
  refine WQ.q (oq_sliceSl (i := 0) Tryd.underlying22 ty5 rfl (by omega) ⟨_, rfl⟩ rfl (by omega) (by omega)) rfl rfl rfl ?_
  refine WQ.q (oq_assign rfl) rfl rfl rfl ?_
  refine WQ.nil ?_
  refine WE.then_normal ?_
  refine WC.sub (fr' := [(2, _)]) ?_ ⟨rfl, trivial⟩
  refine WC.ret ?_
  refine WE.endR (.inl rfl) (res1 Tryd.results66 rfl) ?_
  -- end 0
  rfl

/-- (given.example/pub-tinwright/pub/smithy/io.RingBuffer).Bytes -/
theorem rbytes (base rb sb n : Nat) (l : List UInt8) (st en : Nat) (h : List UInt8) (hln : l.length = n) (hn : n ≤ 1000000) (hr : Ring l st en h) (A : Hp) (kE : TypeId) (pE : Addr) (hE : Eof A kE pE) (hhn : h.length ≤ 80000) : FnW Tryd.prog 47 [.agg #[Sl sb 0 n n, I (st : Int), I (en : Int), I (h.length : Int)]] base [Bf sb 5 l, A] (fun w Hs => ∃ (B cap : Nat) (L : List UInt8), w = Sl B 0 h.length cap ∧ Hs = [Bf B 5 L, Bf sb 5 l, A] ∧ base ≤ B ∧ L.length = cap ∧ h.length ≤ cap ∧ 0 < cap ∧ cap ≤ maxLen ∧ L.take h.length = h) := by
  refine FnW.enter (n := 8) Tryd.func47 rfl rfl fun w0 R0 hbase => ?_
  subst hbase
  show WC _ _ _ _ _ _ _ ([Bf sb 5 l, A, R0])
  refine WC.sub (fr' := [(0, _)]) ?_ ⟨rfl, trivial⟩
  refine WC.seq ?_
  refine WC.region ?_
  refine WL.box rfl rfl rfl fun b0_0 hb0_0 => ?_
  refine WL.q (oq_assign rfl) rfl rfl rfl ?_
  refine WL.nil ?_
  refine WE.then_normal ?_
  refine WC.sub (fr' := [(1, _)]) ?_ ⟨rfl, trivial⟩
  refine WC.seq ?_
  refine WC.region ?_
  refine WL.alloc ty96 rfl rfl fun b1_0 hb1_0 => ?_
  refine WL.nil ?_
  refine WE.then_normal ?_
  refine WC.sub (fr' := [(1, _), (3, _)]) ?_ ⟨rfl, rfl, trivial⟩
  refine WC.seq ?_
  refine WC.region ?_
  refine WL.q (oq_makeI conc98 rfl) rfl rfl rfl ?_
  refine WL.q (oq_makeI conc65 rfl) rfl rfl rfl ?_
  refine WL.f3 ?_
  refine WL.f3 ?_
  refine WL.f3 ?_
  refine WL.f3 ?_
  refine WL.callW4 (ioCopy _ b1_0 b0_0 sb n l st en h hln hn hr A kE pE hE hhn 0) call65 rfl rfl rfl fun v2_2 Hs2_2 hR2_2 => ?_
  obtain ⟨B, cap, L, s2, rfl, rfl, hB, hL, hc, hc0, hm, ht⟩ := hR2_2
  refine WL.to5 ?_
  refine WL.nil ?_
  refine WE.then_normal ?_
  refine WC.sub (fr' := [(3, _)]) ?_ ⟨rfl, trivial⟩
  refine WC.seq ?_
  refine WC.region ?_
  refine WL.qc (oq_callRm (bufBytes b1_0 B h.length cap 0 hc hc0) (.head _) call66 rfl) rfl rfl rfl ?_
  refine WL.q (oq_assign rfl) rfl rfl rfl ?_
  refine WL.nil ?_
  refine WE.then_normal ?_
  refine WC.sub (fr' := [(2, _)]) ?_ ⟨rfl, trivial⟩
  refine WC.ret ?_
  refine WE.lose hb1_0 ?_
  refine WE.f1 ?_
  refine WE.lose hb0_0 ?_
  refine WE.endW3 (.inl rfl) (res1 Tryd.results47 rfl) ?_
  -- end 0
  exact ⟨B, cap, L, rfl, rfl, hB, hL, hc, hc0, hm, ht⟩

end KB
end Go.Proofs.YtcgpajknehhdgaaDoor
