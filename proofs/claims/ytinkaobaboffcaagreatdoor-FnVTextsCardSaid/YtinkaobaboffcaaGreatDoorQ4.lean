/- A value's text, as the program tells it. -/
import Derived.Test.YtinkaobaboffcaaGreatDoorQ3
import Derived.Test.YtinkaobaboffcaaGreatDoorQ0
import Derived.Lib.SmallJoins
import Derived.Test.YtinkaobaboffcaaGreatDoorQ1
import Derived.Test.YtinkaobaboffcaaGreatDoorRows
import Derived.Lib.LaidTab
import Derived.LaidLaws
import Derived.LaidHandle
import Derived.MakeChecks
namespace Go.Proofs.YtinkaobaboffcaaGreatDoor
open Go Go.RowKit V EA EB EC EE EF EG EH EI TA TB TC TD TE TF TG TH TI ER ES
set_option linter.unusedSimpArgs false
set_option linter.unusedVariables false
set_option maxRecDepth 10000
namespace TJ
theorem call10 : Callable Tryz.prog 10 := ⟨_, Tryz.func10, rfl, by kernel_rfl⟩
theorem call13 : Callable Tryz.prog 13 := ⟨_, Tryz.func13, rfl, by kernel_rfl⟩
theorem call19 : Callable Tryz.prog 19 := ⟨_, Tryz.func19, rfl, by kernel_rfl⟩
theorem call77 : Callable Tryz.prog 77 := ⟨_, Tryz.func77, rfl, by kernel_rfl⟩
theorem call95 : Callable Tryz.prog 95 := ⟨_, Tryz.func95, rfl, by kernel_rfl⟩
theorem call106 : Callable Tryz.prog 106 := ⟨_, Tryz.func106, rfl, by kernel_rfl⟩
theorem call122 : Callable Tryz.prog 122 := ⟨_, Tryz.func122, rfl, by kernel_rfl⟩
theorem call123 : Callable Tryz.prog 123 := ⟨_, Tryz.func123, rfl, by kernel_rfl⟩
theorem flat2 : Flat Tryz.prog 2 := ⟨_, Tryz.underlying2, by simp⟩
theorem flat3 : Flat Tryz.prog 3 := ⟨_, Tryz.underlying3, by simp⟩
theorem flat9 : Flat Tryz.prog 9 := ⟨_, Tryz.underlying9, by simp⟩
theorem ty2 : Ty Tryz.prog 2 (.int .i64 0) 1 8 := ty_of (by kernel_rfl)
theorem ty3 : Ty Tryz.prog 3 (.int .i64 0) 1 8 := ty_of (by kernel_rfl)
theorem ty5 : Ty Tryz.prog 5 (.int .u8 0) 1 1 := ty_of (by kernel_rfl)
theorem ty9 : Ty Tryz.prog 9 (S []) 1 16 := ty_of (by kernel_rfl)
theorem ty23 : Ty Tryz.prog 23 (.agg #[(.int .i64 0), (.int .i64 0), (.int .i64 0), (S [])]) 4 40 := ty_of (by kernel_rfl)
theorem ty68 : Ty Tryz.prog 68 (.agg #[(.int .i64 0), (.int .i32 0), (S []), (.int .i64 0)]) 4 40 := ty_of (by kernel_rfl)
theorem ty72 : Ty Tryz.prog 72 (.agg #[(.int .u8 0), (.int .u8 0), (.int .u8 0), (.int .u8 0), (.int .u8 0), (.int .u8 0), (.int .u8 0), (.int .u8 0), (.int .u8 0), (.int .u8 0), (.int .u8 0), (.int .u8 0), (.int .u8 0), (.int .u8 0), (.int .u8 0), (.int .u8 0)]) 16 16 := ty_of (by kernel_rfl)
theorem conc60 : Conc Tryz.prog 60 := ⟨_, Tryz.underlying60, by simp⟩
theorem conc62 : Conc Tryz.prog 62 := ⟨_, Tryz.underlying62, by simp⟩
theorem conc63 : Conc Tryz.prog 63 := ⟨_, Tryz.underlying63, by simp⟩
theorem conc64 : Conc Tryz.prog 64 := ⟨_, Tryz.underlying64, by simp⟩
theorem conc65 : Conc Tryz.prog 65 := ⟨_, Tryz.underlying65, by simp⟩
theorem conc66 : Conc Tryz.prog 66 := ⟨_, Tryz.underlying66, by simp⟩
theorem conc68 : Conc Tryz.prog 68 := ⟨_, Tryz.underlying68, by simp⟩
theorem conc72 : Conc Tryz.prog 72 := ⟨_, Tryz.underlying72, by simp⟩
theorem conc73 : Conc Tryz.prog 73 := ⟨_, Tryz.underlying73, by simp⟩
theorem agg23 : Agg Tryz.prog 23 := agg_of Tryz.underlying23
theorem agg68 : Agg Tryz.prog 68 := agg_of Tryz.underlying68
theorem agg72 : Agg Tryz.prog 72 := agg_arr Tryz.underlying72
theorem fld23_0 : Fld Tryz.prog 23 0 0 3 := fld_of Tryz.underlying23 rfl rfl rfl ty3 (by decide)
theorem fld23_1 : Fld Tryz.prog 23 1 1 3 := fld_of Tryz.underlying23 rfl rfl rfl ty3 (by decide)
theorem fld23_2 : Fld Tryz.prog 23 2 2 2 := fld_of Tryz.underlying23 rfl rfl rfl ty2 (by decide)
theorem fld23_3 : Fld Tryz.prog 23 3 3 9 := fld_of Tryz.underlying23 rfl rfl rfl ty9 (by decide)
theorem fn0R {P : Program} {f : FuncId} {args : List Value} {v : Value} (h : Fn0 P f args v) (C : Hp) : FnR P f args C v := fun w hw =>
 (h w).mono fun e w' hh => ⟨hh.1, by simpa using hw.st.pure hh.2⟩
theorem fnRW {P : Program} {f : FuncId} {args : List Value} {A : Hp} {v : Value} {base : Nat} (h : FnR P f args A v) : FnW P f args base [A] (fun v' Hs => v' = v ∧ Hs = [A]) := fun w0 R0 w hb hw => by
 have hw2 : St w0 (A ++ R0) w := by simpa using hw
 refine (h w hw2.has).mono fun e w' hh => ?_
 obtain ⟨h1, h2⟩ := hh
 exact ⟨v, [A], h1, ⟨rfl, rfl⟩, by simpa using hw2.trans (N := []) (by simpa using h2) rfl (fun _ _ h => nomatch h)⟩
def TOk (h : HV) (v : Value) (N : Hp) : Prop := ∃ k r f, v = .iface k r ∧ Inv0 Tryz.prog k "String" f ∧ ∀ C, (∀ x ∈ N, x ∈ C) → Tb C → FnR Tryz.prog f [r] C (S (textV h))
theorem invSInt8Value : Inv0 Tryz.prog 60 "String" 74 := fun x w => by kernel_rfl
theorem invSInt16Value : Inv0 Tryz.prog 62 "String" 80 := fun x w => by kernel_rfl
theorem invSInt32Value : Inv0 Tryz.prog 63 "String" 84 := fun x w => by kernel_rfl
theorem invSInt64Value : Inv0 Tryz.prog 64 "String" 88 := fun x w => by kernel_rfl
theorem invSBytesValue : Inv0 Tryz.prog 65 "String" 92 := fun x w => by kernel_rfl
theorem invSStringValue : Inv0 Tryz.prog 66 "String" 98 := fun x w => by kernel_rfl
theorem invSTimestampValue : Inv0 Tryz.prog 68 "String" 103 := fun x w => by kernel_rfl
theorem invSUUIDValue : Inv0 Tryz.prog 72 "String" 113 := fun x w => by kernel_rfl
theorem invSBoolValue : Inv0 Tryz.prog 73 "String" 119 := fun x w => by kernel_rfl
theorem strInt8Value (n : Int) (h1 : -128 ≤ n) (h2 : n ≤ 127) (G : Hp) (hG : Tb G) : FnR Tryz.prog 74 [.int .i8 n] G (S ([48, 120] ++ hexI n 2)) := by
 have hln := hexI_len (n := n) (w := 2) (by omega)
 refine FnR.enter (n := 7) Tryz.func74 rfl rfl fun w0 => ?_
 refine WC.sub (fr' := [(0, _)]) ?_ ⟨rfl, trivial⟩
 refine WC.seq (WC.region ?_)
 refine WL.q (oq_assign rfl) rfl rfl rfl ?_
 refine WL.nil (WE.then_normal (WC.sub (fr' := [(0, _)]) ?_ ⟨rfl, trivial⟩))
 refine WC.seq (WC.region ?_)
 refine WL.q (oq_move rfl) rfl rfl rfl ?_
 refine WL.q (oq_conv Tryz.underlying60 Tryz.underlying2 rfl (by rw [i64_lo, i64_hi]; (first | omega | (simp only [List.length_cons, List.length_nil, List.length_append, List.length_drop, List.length_take]; omega)))) rfl rfl rfl ?_
 refine WL.qc (oq_callRm (zzPadded n 2 (by omega) (by omega) (by omega) G hG.1) (.head _) call77 rfl) rfl rfl rfl ?_
 refine WL.q (oq_concat rfl rfl (by (first | omega | (simp only [List.length_cons, List.length_nil, List.length_append, List.length_drop, List.length_take]; omega)))) rfl rfl rfl ?_
 refine WL.q (oq_assign rfl) rfl rfl rfl ?_
 refine WL.nil (WE.then_normal (WC.sub (fr' := [(2, _)]) ?_ ⟨rfl, trivial⟩))
 refine WC.ret ?_
 refine WE.endR (.inl rfl) (res1 Tryz.results74 rfl) ?_
 rfl
theorem strInt16Value (n : Int) (h1 : -32768 ≤ n) (h2 : n ≤ 32767) (G : Hp) (hG : Tb G) : FnR Tryz.prog 80 [.int .i16 n] G (S ([48, 120] ++ hexI n 4)) := by
 have hln := hexI_len (n := n) (w := 4) (by omega)
 refine FnR.enter (n := 7) Tryz.func80 rfl rfl fun w0 => ?_
 refine WC.sub (fr' := [(0, _)]) ?_ ⟨rfl, trivial⟩
 refine WC.seq (WC.region ?_)
 refine WL.q (oq_assign rfl) rfl rfl rfl ?_
 refine WL.nil (WE.then_normal (WC.sub (fr' := [(0, _)]) ?_ ⟨rfl, trivial⟩))
 refine WC.seq (WC.region ?_)
 refine WL.q (oq_move rfl) rfl rfl rfl ?_
 refine WL.q (oq_conv Tryz.underlying62 Tryz.underlying2 rfl (by rw [i64_lo, i64_hi]; (first | omega | (simp only [List.length_cons, List.length_nil, List.length_append, List.length_drop, List.length_take]; omega)))) rfl rfl rfl ?_
 refine WL.qc (oq_callRm (zzPadded n 4 (by omega) (by omega) (by omega) G hG.1) (.head _) call77 rfl) rfl rfl rfl ?_
 refine WL.q (oq_concat rfl rfl (by (first | omega | (simp only [List.length_cons, List.length_nil, List.length_append, List.length_drop, List.length_take]; omega)))) rfl rfl rfl ?_
 refine WL.q (oq_assign rfl) rfl rfl rfl ?_
 refine WL.nil (WE.then_normal (WC.sub (fr' := [(2, _)]) ?_ ⟨rfl, trivial⟩))
 refine WC.ret ?_
 refine WE.endR (.inl rfl) (res1 Tryz.results80 rfl) ?_
 rfl
theorem strInt32Value (n : Int) (h1 : -2147483648 ≤ n) (h2 : n ≤ 2147483647) (G : Hp) (hG : Tb G) : FnR Tryz.prog 84 [.int .i32 n] G (S ([48, 120] ++ hexI n 8)) := by
 have hln := hexI_len (n := n) (w := 8) (by omega)
 refine FnR.enter (n := 7) Tryz.func84 rfl rfl fun w0 => ?_
 refine WC.sub (fr' := [(0, _)]) ?_ ⟨rfl, trivial⟩
 refine WC.seq (WC.region ?_)
 refine WL.q (oq_assign rfl) rfl rfl rfl ?_
 refine WL.nil (WE.then_normal (WC.sub (fr' := [(0, _)]) ?_ ⟨rfl, trivial⟩))
 refine WC.seq (WC.region ?_)
 refine WL.q (oq_move rfl) rfl rfl rfl ?_
 refine WL.q (oq_conv Tryz.underlying63 Tryz.underlying2 rfl (by rw [i64_lo, i64_hi]; (first | omega | (simp only [List.length_cons, List.length_nil, List.length_append, List.length_drop, List.length_take]; omega)))) rfl rfl rfl ?_
 refine WL.qc (oq_callRm (zzPadded n 8 (by omega) (by omega) (by omega) G hG.1) (.head _) call77 rfl) rfl rfl rfl ?_
 refine WL.q (oq_concat rfl rfl (by (first | omega | (simp only [List.length_cons, List.length_nil, List.length_append, List.length_drop, List.length_take]; omega)))) rfl rfl rfl ?_
 refine WL.q (oq_assign rfl) rfl rfl rfl ?_
 refine WL.nil (WE.then_normal (WC.sub (fr' := [(2, _)]) ?_ ⟨rfl, trivial⟩))
 refine WC.ret ?_
 refine WE.endR (.inl rfl) (res1 Tryz.results84 rfl) ?_
 rfl
theorem strInt64Value (n : Int) (h1 : -9223372036854775808 ≤ n) (h2 : n ≤ 9223372036854775807) (G : Hp) (hG : Tb G) : FnR Tryz.prog 88 [.int .i64 n] G (S ([48, 120] ++ hexI n 16)) := by
 have hln := hexI_len (n := n) (w := 16) (by omega)
 refine FnR.enter (n := 6) Tryz.func88 rfl rfl fun w0 => ?_
 refine WC.sub (fr' := [(0, _)]) ?_ ⟨rfl, trivial⟩
 refine WC.seq (WC.region ?_)
 refine WL.q (oq_assign rfl) rfl rfl rfl ?_
 refine WL.nil (WE.then_normal (WC.sub (fr' := [(0, _)]) ?_ ⟨rfl, trivial⟩))
 refine WC.seq (WC.region ?_)
 refine WL.q (oq_move rfl) rfl rfl rfl ?_
 refine WL.qc (oq_callRm (zzPadded n 16 (by omega) (by omega) (by omega) G hG.1) (.head _) call77 rfl) rfl rfl rfl ?_
 refine WL.q (oq_concat rfl rfl (by (first | omega | (simp only [List.length_cons, List.length_nil, List.length_append, List.length_drop, List.length_take]; omega)))) rfl rfl rfl ?_
 refine WL.q (oq_assign rfl) rfl rfl rfl ?_
 refine WL.nil (WE.then_normal (WC.sub (fr' := [(2, _)]) ?_ ⟨rfl, trivial⟩))
 refine WC.ret ?_
 refine WE.endR (.inl rfl) (res1 Tryz.results88 rfl) ?_
 rfl
theorem strBytesValue (v0 : Value) (N : Hp) (l : List UInt8) (hr0 : RdS 1 v0 N l.length (bytesV l)) (hl : l.length ≤ 400000) : FnR Tryz.prog 92 [v0] N (S (b64 l)) := by
 refine FnR.enter (n := 5) Tryz.func92 rfl rfl fun w0 => ?_
 refine WC.sub (fr' := [(0, _)]) ?_ ⟨rfl, trivial⟩
 refine WC.seq (WC.region ?_)
 refine WL.q (oq_assign rfl) rfl rfl rfl ?_
 refine WL.nil (WE.then_normal (WC.sub (fr' := [(0, _)]) ?_ ⟨rfl, trivial⟩))
 refine WC.seq (WC.region ?_)
 refine WL.q (oq_move rfl) rfl rfl rfl ?_
 refine WL.qc (oq_callRm (zzEncode v0 N l hr0 hl) (.head _) call95 rfl) rfl rfl rfl ?_
 refine WL.q (oq_assign rfl) rfl rfl rfl ?_
 refine WL.nil (WE.then_normal (WC.sub (fr' := [(2, _)]) ?_ ⟨rfl, trivial⟩))
 refine WC.ret ?_
 refine WE.endR (.inl rfl) (res1 Tryz.results92 rfl) ?_
 rfl
theorem strStringValue (l : List UInt8) : Fn0 Tryz.prog 98 [S l] (S l) := by
 refine Fn0.enter (n := 4) Tryz.func98 rfl rfl fun w0 => ?_
 refine WC.sub (fr' := [(0, _)]) ?_ ⟨rfl, trivial⟩
 refine WC.seq (WC.region ?_)
 refine WL.q (oq_assign rfl) rfl rfl rfl ?_
 refine WL.nil (WE.then_normal (WC.sub (fr' := [(0, _)]) ?_ ⟨rfl, trivial⟩))
 refine WC.seq (WC.region ?_)
 refine WL.q (oq_move rfl) rfl rfl rfl ?_
 refine WL.q (oq_assign rfl) rfl rfl rfl ?_
 refine WL.nil (WE.then_normal (WC.sub (fr' := [(2, _)]) ?_ ⟨rfl, trivial⟩))
 refine WC.ret ?_
 refine WE.end0 (.inl rfl) (res1 Tryz.results98 rfl) ?_
 rfl
theorem strTimestampValue (ms : Int) (h1 : -9200000000000 ≤ ms) (h2 : ms ≤ 9200000000000) (G : Hp) (hG : Tb G) : FnR Tryz.prog 103 [msV ms] G (S (Lib.itoa ms)) := by
 refine FnR.enter (n := 8) Tryz.func103 rfl rfl fun w0 => ?_
 refine WC.sub (fr' := [(0, _)]) ?_ ⟨rfl, trivial⟩
 refine WC.seq (WC.region ?_)
 refine WL.box rfl rfl rfl fun tb htb => ?_
 refine WL.q (oq_assign rfl) rfl rfl rfl ?_
 refine WL.nil (WE.then_normal (WC.sub (fr' := [(1, _)]) ?_ ⟨rfl, trivial⟩))
 refine WC.seq (WC.region ?_)
 refine WL.q (oq_loadS [_, _, _, _] agg68 ty68 rfl (.head _) (List.mem_singleton.2 rfl) rfl rfl) rfl rfl rfl ?_
 refine WL.qc (oq_call (epochMilli ms h1 h2) call106 rfl) rfl rfl rfl ?_
 refine WL.q (oq_assign rfl) rfl rfl rfl ?_
 refine WL.nil (WE.then_normal (WC.sub (fr' := [(3, _)]) ?_ ⟨rfl, trivial⟩))
 refine WC.seq (WC.region ?_)
 refine WL.q (oq_move rfl) rfl rfl rfl ?_
 refine WL.qc (oq_callRm (fmt10 ms (by omega) (by omega) G hG) (.tail _ (.head _)) call13 rfl) rfl rfl rfl ?_
 refine WL.q (oq_assign rfl) rfl rfl rfl ?_
 refine WL.nil (WE.then_normal (WC.sub (fr' := [(2, _)]) ?_ ⟨rfl, trivial⟩))
 refine WC.ret ?_
 refine WE.lose htb ?_
 refine WE.endR (.inl rfl) (res1 Tryz.results103 rfl) ?_
 rfl
theorem fmtBool0 (b : Bool) : Fn0 Tryz.prog 123 [.bool b] (S (if b then [116, 114, 117, 101] else [102, 97, 108, 115, 101])) := by
 refine Fn0.enter (n := 4) Tryz.func123 rfl rfl fun w0 => ?_
 refine WC.sub (fr' := [(0, _)]) ?_ ⟨rfl, trivial⟩
 refine WC.seq (WC.region ?_)
 refine WL.q (oq_assign rfl) rfl rfl rfl ?_
 refine WL.nil (WE.then_normal (WC.sub (fr' := [(0, _)]) ?_ ⟨rfl, trivial⟩))
 refine WC.seq (WC.seq (WC.region ?_))
 refine WL.q (oq_move rfl) rfl rfl rfl ?_
 refine WL.nil (WE.then_normal (WC.sub (fr' := [(3, _)]) ?_ ⟨rfl, trivial⟩))
 refine WC.cond rfl (fun q1 => ?_) (fun q1 => ?_)
 ·
  try simp only [Z1, Z2, Z3, Z4, Z5, Z6, Z7, Z8, Z9, Z0] at q1
  refine WC.seq (WC.region ?_)
  refine WL.q (oq_assign rfl) rfl rfl rfl ?_
  refine WL.nil (WE.then_normal (WC.sub (fr' := [(2, _)]) ?_ ⟨rfl, trivial⟩))
  refine WC.ret (WE.then_ret ?_)
  refine WE.end0 (.inl rfl) (res1 Tryz.results123 rfl) ?_
  subst q1; rfl
 ·
  try simp only [Z1, Z2, Z3, Z4, Z5, Z6, Z7, Z8, Z9, Z0] at q1
  refine WC.skip (WE.then_normal (WC.sub (fr' := []) ?_ trivial))
  refine WC.seq (WC.region ?_)
  refine WL.q (oq_assign rfl) rfl rfl rfl ?_
  refine WL.nil (WE.then_normal (WC.sub (fr' := [(2, _)]) ?_ ⟨rfl, trivial⟩))
  refine WC.ret ?_
  refine WE.end0 (.inl rfl) (res1 Tryz.results123 rfl) ?_
  subst q1; rfl
theorem fmtBool (b : Bool) : Fn0 Tryz.prog 122 [.bool b] (S (if b then [116, 114, 117, 101] else [102, 97, 108, 115, 101])) := by
 refine Fn0.enter (n := 5) Tryz.func122 rfl rfl fun w0 => ?_
 refine WC.sub (fr' := [(0, _)]) ?_ ⟨rfl, trivial⟩
 refine WC.seq (WC.region ?_)
 refine WL.q (oq_assign rfl) rfl rfl rfl ?_
 refine WL.nil (WE.then_normal (WC.sub (fr' := [(0, _)]) ?_ ⟨rfl, trivial⟩))
 refine WC.seq (WC.region ?_)
 refine WL.q (oq_move rfl) rfl rfl rfl ?_
 refine WL.qc (oq_call (fmtBool0 b) call123 rfl) rfl rfl rfl ?_
 refine WL.q (oq_assign rfl) rfl rfl rfl ?_
 refine WL.nil (WE.then_normal (WC.sub (fr' := [(2, _)]) ?_ ⟨rfl, trivial⟩))
 refine WC.ret ?_
 refine WE.end0 (.inl rfl) (res1 Tryz.results122 rfl) ?_
 rfl
theorem strBoolValue (b : Bool) : Fn0 Tryz.prog 119 [.bool b] (S (if b then [116, 114, 117, 101] else [102, 97, 108, 115, 101])) := by
 refine Fn0.enter (n := 5) Tryz.func119 rfl rfl fun w0 => ?_
 refine WC.sub (fr' := [(0, _)]) ?_ ⟨rfl, trivial⟩
 refine WC.seq (WC.region ?_)
 refine WL.q (oq_assign rfl) rfl rfl rfl ?_
 refine WL.nil (WE.then_normal (WC.sub (fr' := [(0, _)]) ?_ ⟨rfl, trivial⟩))
 refine WC.seq (WC.region ?_)
 refine WL.q (oq_move rfl) rfl rfl rfl ?_
 refine WL.qc (oq_call (fmtBool b) call122 rfl) rfl rfl rfl ?_
 refine WL.q (oq_assign rfl) rfl rfl rfl ?_
 refine WL.nil (WE.then_normal (WC.sub (fr' := [(2, _)]) ?_ ⟨rfl, trivial⟩))
 refine WC.ret ?_
 refine WE.end0 (.inl rfl) (res1 Tryz.results119 rfl) ?_
 rfl
theorem tokInt8Value {h : HV} (hk : h.kind = 1) (hw : h.width = 8) (h1 : -128 ≤ h.int) (h2 : h.int ≤ 127) : TOk h (.iface 60 (.int .i8 h.int)) [] := by
 refine ⟨_, _, _, rfl, invSInt8Value, fun C _ hC => ?_⟩
 have he : textV h = [48, 120] ++ hexI h.int 2 := by unfold textV; rw [if_neg (by omega), if_pos hk, hw]; rfl
 rw [he]
 exact strInt8Value h.int h1 h2 C hC
theorem tokInt16Value {h : HV} (hk : h.kind = 1) (hw : h.width = 16) (h1 : -32768 ≤ h.int) (h2 : h.int ≤ 32767) : TOk h (.iface 62 (.int .i16 h.int)) [] := by
 refine ⟨_, _, _, rfl, invSInt16Value, fun C _ hC => ?_⟩
 have he : textV h = [48, 120] ++ hexI h.int 4 := by unfold textV; rw [if_neg (by omega), if_pos hk, hw]; rfl
 rw [he]
 exact strInt16Value h.int h1 h2 C hC
theorem tokInt32Value {h : HV} (hk : h.kind = 1) (hw : h.width = 32) (h1 : -2147483648 ≤ h.int) (h2 : h.int ≤ 2147483647) : TOk h (.iface 63 (.int .i32 h.int)) [] := by
 refine ⟨_, _, _, rfl, invSInt32Value, fun C _ hC => ?_⟩
 have he : textV h = [48, 120] ++ hexI h.int 8 := by unfold textV; rw [if_neg (by omega), if_pos hk, hw]; rfl
 rw [he]
 exact strInt32Value h.int h1 h2 C hC
theorem tokInt64Value {h : HV} (hk : h.kind = 1) (hw : h.width = 64) (h1 : -9223372036854775808 ≤ h.int) (h2 : h.int ≤ 9223372036854775807) : TOk h (.iface 64 (.int .i64 h.int)) [] := by
 refine ⟨_, _, _, rfl, invSInt64Value, fun C _ hC => ?_⟩
 have he : textV h = [48, 120] ++ hexI h.int 16 := by unfold textV; rw [if_neg (by omega), if_pos hk, hw]; rfl
 rw [he]
 exact strInt64Value h.int h1 h2 C hC
theorem tokBytes {h : HV} {s : Value} {N : Hp} (hk : h.kind = 2) (hr : RdS 1 s N h.text.length (bytesV h.text)) (hl : h.text.length ≤ 400000) : TOk h (.iface 65 s) N := by
 refine ⟨_, _, _, rfl, invSBytesValue, fun C hs hC => ?_⟩
 have he : textV h = b64 h.text := by unfold textV; rw [if_neg (by omega), if_neg (by omega), if_pos hk]
 rw [he]
 exact strBytesValue s C h.text (hr.weaken hs) hl
theorem tokString {h : HV} (hk : h.kind = 3) : TOk h (.iface 66 (S h.text)) [] := by
 refine ⟨_, _, _, rfl, invSStringValue, fun C hs hC => ?_⟩
 have he : textV h = h.text := by unfold textV; rw [if_neg (by omega), if_neg (by omega), if_neg (by omega), if_neg (by omega), if_neg (by omega)]
 rw [he]
 exact fn0R (strStringValue h.text) C
theorem tokTime {h : HV} (hk : h.kind = 4) (h1 : -9200000000000 ≤ h.int) (h2 : h.int ≤ 9200000000000) : TOk h (.iface 68 (msV h.int)) [] := by
 refine ⟨_, _, _, rfl, invSTimestampValue, fun C hs hC => ?_⟩
 have he : textV h = Lib.itoa h.int := by unfold textV; rw [if_neg (by omega), if_neg (by omega), if_neg (by omega), if_pos hk]
 rw [he]
 exact strTimestampValue h.int h1 h2 C hC
theorem tokUUID {h : HV} (hk : h.kind = 5) (hl : h.text.length = 16) : TOk h (.iface 72 (.agg (bytesV h.text).toArray)) [] := by
 refine ⟨_, _, _, rfl, invSUUIDValue, fun C hs hC => ?_⟩
 have he : textV h = sf h.text 16 := by unfold textV; rw [if_neg (by omega), if_neg (by omega), if_neg (by omega), if_neg (by omega), if_pos hk, hl]
 rw [he]
 exact fn0R (uuidText h.text hl) C
theorem tokBool {h : HV} (hk : h.kind = 0) : TOk h (.iface 73 (.bool (decide (¬ h.int = 0)))) [] := by
 refine ⟨_, _, _, rfl, invSBoolValue, fun C hs hC => ?_⟩
 have he : textV h = (if (decide (¬ h.int = 0)) then [116, 114, 117, 101] else [102, 97, 108, 115, 101]) := by
  unfold textV; rw [if_pos hk]
  by_cases h0 : h.int = 0 <;> simp [h0]
 rw [he]
 exact fn0R (strBoolValue _) C
theorem valueForT (h : HV) (hf : fineV h) (h1 : -9223372036854775808 ≤ h.int) (h2 : h.int ≤ 9223372036854775807) (hl : h.text.length ≤ 400000) : FnA Tryz.prog 10 [.agg #[I h.kind, I h.width, I h.int, S h.text]] [] (fun v N => TOk h v N) := by
 obtain ⟨hk0, hk5, hwd, hun, htm⟩ := hf
 refine FnA.enter0 (n := 60) Tryz.func10 rfl rfl fun w0 => ?_
 refine WC.sub (fr' := [(0, _)]) ?_ ⟨rfl, trivial⟩
 refine WC.seq (WC.region ?_)
 refine WL.box rfl rfl rfl fun b0_0 hb0_0 => ?_
 refine WL.q (oq_assign rfl) rfl rfl rfl ?_
 refine WL.nil (WE.then_normal (WC.sub (fr' := [(1, _)]) ?_ ⟨rfl, trivial⟩))
 refine WC.seq (WC.seq (WC.region ?_))
 refine WL.q (oq_fieldAddr fld23_0 rfl) rfl rfl rfl ?_
 refine WL.q (oq_load flat3 rfl (.head _) (List.mem_singleton.2 rfl) rfl) rfl rfl rfl ?_
 refine WL.nil (WE.then_normal (WC.sub (fr' := [(1, _), (5, _)]) ?_ ⟨rfl, rfl, trivial⟩))
 refine WC.block (WC.seq (WC.region ?_))
 refine WL.q (oq_eql rfl rfl) rfl rfl rfl ?_
 refine WL.q (oq_assign rfl) rfl rfl rfl ?_
 refine WL.nil (WE.then_normal (WC.sub (fr' := [(1, _), (5, _), (6, _)]) ?_ ⟨rfl, rfl, rfl, trivial⟩))
 refine WC.cond rfl (fun q2 => ?_) (fun q2 => ?_)
 ·
  try simp only [Z1, Z2, Z3, Z4, Z5, Z6, Z7, Z8, Z9, Z0] at q2
  refine WC.seq (WC.seq (WC.region ?_))
  refine WL.q (oq_fieldAddr fld23_1 rfl) rfl rfl rfl ?_
  refine WL.q (oq_load flat3 rfl (.head _) (List.mem_singleton.2 rfl) rfl) rfl rfl rfl ?_
  refine WL.nil (WE.then_normal (WC.sub (fr' := [(1, _), (9, _)]) ?_ ⟨rfl, rfl, trivial⟩))
  refine WC.block (WC.seq (WC.region ?_))
  refine WL.q (oq_eql rfl rfl) rfl rfl rfl ?_
  refine WL.q (oq_assign rfl) rfl rfl rfl ?_
  refine WL.nil (WE.then_normal (WC.sub (fr' := [(1, _), (9, _), (10, _)]) ?_ ⟨rfl, rfl, rfl, trivial⟩))
  refine WC.cond rfl (fun q4 => ?_) (fun q4 => ?_)
  ·
   try simp only [Z1, Z2, Z3, Z4, Z5, Z6, Z7, Z8, Z9, Z0] at q4
   refine WC.seq ?_
   have hw8 := hwd q2
   refine WC.region ?_
   refine WL.q (oq_fieldAddr fld23_2 rfl) rfl rfl rfl ?_
   refine WL.q (oq_load flat2 rfl (.head _) (List.mem_singleton.2 rfl) rfl) rfl rfl rfl ?_
   refine WL.q (oq_conv Tryz.underlying2 Tryz.underlying60 rfl (by rw [i8_lo, i8_hi]; (first | omega | (simp only [List.length_cons, List.length_nil, List.length_append, List.length_drop, List.length_take]; omega)))) rfl rfl rfl ?_
   refine WL.q (oq_makeI conc60 rfl) rfl rfl rfl ?_
   refine WL.q (oq_assign rfl) rfl rfl rfl ?_
   refine WL.nil (WE.then_normal (WC.sub (fr' := [(2, _)]) ?_ ⟨rfl, trivial⟩))
   refine WC.ret (WE.block_ret (WE.then_ret (WE.block_ret (WE.then_ret ?_))))
   refine WE.lose hb0_0 ?_
   refine WE.add0 ?_
   refine WE.endA0 (.inl rfl) (res1 Tryz.results10 rfl) ?_ fresh0
   exact tokInt8Value q2 q4 (by omega) (by omega)
  ·
   try simp only [Z1, Z2, Z3, Z4, Z5, Z6, Z7, Z8, Z9, Z0] at q4
   refine WC.seq (WC.region ?_)
   refine WL.q (oq_eql rfl rfl) rfl rfl rfl ?_
   refine WL.q (oq_assign rfl) rfl rfl rfl ?_
   refine WL.nil (WE.then_normal (WC.sub (fr' := [(1, _), (9, _), (16, _)]) ?_ ⟨rfl, rfl, rfl, trivial⟩))
   refine WC.cond rfl (fun q6 => ?_) (fun q6 => ?_)
   ·
    try simp only [Z1, Z2, Z3, Z4, Z5, Z6, Z7, Z8, Z9, Z0] at q6
    refine WC.seq ?_
    have hw8 := hwd q2
    refine WC.region ?_
    refine WL.q (oq_fieldAddr fld23_2 rfl) rfl rfl rfl ?_
    refine WL.q (oq_load flat2 rfl (.head _) (List.mem_singleton.2 rfl) rfl) rfl rfl rfl ?_
    refine WL.q (oq_conv Tryz.underlying2 Tryz.underlying62 rfl (by rw [i16_lo, i16_hi]; (first | omega | (simp only [List.length_cons, List.length_nil, List.length_append, List.length_drop, List.length_take]; omega)))) rfl rfl rfl ?_
    refine WL.q (oq_makeI conc62 rfl) rfl rfl rfl ?_
    refine WL.q (oq_assign rfl) rfl rfl rfl ?_
    refine WL.nil (WE.then_normal (WC.sub (fr' := [(2, _)]) ?_ ⟨rfl, trivial⟩))
    refine WC.ret (WE.block_ret (WE.then_ret (WE.block_ret (WE.then_ret ?_))))
    refine WE.lose hb0_0 ?_
    refine WE.add0 ?_
    refine WE.endA0 (.inl rfl) (res1 Tryz.results10 rfl) ?_ fresh0
    exact tokInt16Value q2 q6 (by omega) (by omega)
   ·
    try simp only [Z1, Z2, Z3, Z4, Z5, Z6, Z7, Z8, Z9, Z0] at q6
    refine WC.seq (WC.region ?_)
    refine WL.q (oq_eql rfl rfl) rfl rfl rfl ?_
    refine WL.q (oq_assign rfl) rfl rfl rfl ?_
    refine WL.nil (WE.then_normal (WC.sub (fr' := [(1, _), (22, _)]) ?_ ⟨rfl, rfl, trivial⟩))
    refine WC.cond rfl (fun q8 => ?_) (fun q8 => ?_)
    ·
     try simp only [Z1, Z2, Z3, Z4, Z5, Z6, Z7, Z8, Z9, Z0] at q8
     refine WC.seq ?_
     have hw8 := hwd q2
     refine WC.region ?_
     refine WL.q (oq_fieldAddr fld23_2 rfl) rfl rfl rfl ?_
     refine WL.q (oq_load flat2 rfl (.head _) (List.mem_singleton.2 rfl) rfl) rfl rfl rfl ?_
     refine WL.q (oq_conv Tryz.underlying2 Tryz.underlying63 rfl (by rw [i32_lo, i32_hi]; (first | omega | (simp only [List.length_cons, List.length_nil, List.length_append, List.length_drop, List.length_take]; omega)))) rfl rfl rfl ?_
     refine WL.q (oq_makeI conc63 rfl) rfl rfl rfl ?_
     refine WL.q (oq_assign rfl) rfl rfl rfl ?_
     refine WL.nil (WE.then_normal (WC.sub (fr' := [(2, _)]) ?_ ⟨rfl, trivial⟩))
     refine WC.ret (WE.block_ret (WE.then_ret (WE.block_ret (WE.then_ret ?_))))
     refine WE.lose hb0_0 ?_
     refine WE.add0 ?_
     refine WE.endA0 (.inl rfl) (res1 Tryz.results10 rfl) ?_ fresh0
     exact tokInt32Value q2 q8 (by omega) (by omega)
    ·
     try simp only [Z1, Z2, Z3, Z4, Z5, Z6, Z7, Z8, Z9, Z0] at q8
     refine WC.skip (WE.block_normal (WE.then_normal (WC.sub (fr' := [(1, _)]) ?_ ⟨rfl, trivial⟩)))
     refine WC.seq ?_
     have hw8 := hwd q2
     refine WC.region ?_
     refine WL.q (oq_fieldAddr fld23_2 rfl) rfl rfl rfl ?_
     refine WL.q (oq_load flat2 rfl (.head _) (List.mem_singleton.2 rfl) rfl) rfl rfl rfl ?_
     refine WL.q (oq_makeI conc64 rfl) rfl rfl rfl ?_
     refine WL.q (oq_assign rfl) rfl rfl rfl ?_
     refine WL.nil (WE.then_normal (WC.sub (fr' := [(2, _)]) ?_ ⟨rfl, trivial⟩))
     refine WC.ret (WE.block_ret (WE.then_ret ?_))
     refine WE.lose hb0_0 ?_
     refine WE.add0 ?_
     refine WE.endA0 (.inl rfl) (res1 Tryz.results10 rfl) ?_ fresh0
     exact tokInt64Value q2 (by omega) h1 h2
 ·
  try simp only [Z1, Z2, Z3, Z4, Z5, Z6, Z7, Z8, Z9, Z0] at q2
  refine WC.seq (WC.region ?_)
  refine WL.q (oq_eql rfl rfl) rfl rfl rfl ?_
  refine WL.q (oq_assign rfl) rfl rfl rfl ?_
  refine WL.nil (WE.then_normal (WC.sub (fr' := [(1, _), (5, _), (31, _)]) ?_ ⟨rfl, rfl, rfl, trivial⟩))
  refine WC.cond rfl (fun q11 => ?_) (fun q11 => ?_)
  ·
   try simp only [Z1, Z2, Z3, Z4, Z5, Z6, Z7, Z8, Z9, Z0] at q11
   refine WC.seq (WC.region ?_)
   refine WL.q (oq_fieldAddr fld23_3 rfl) rfl rfl rfl ?_
   refine WL.q (oq_load flat9 rfl (.head _) (List.mem_singleton.2 rfl) rfl) rfl rfl rfl ?_
   refine WL.toBytes Tryz.underlying9 Tryz.underlying65 Tryz.underlying5 rfl (by unfold maxLen; (first | omega | (simp only [List.length_cons, List.length_nil, List.length_append, List.length_drop, List.length_take]; omega))) rfl rfl fun v12_2 A12_2 hr12_2 hA12_2 => ?_
   refine WL.q (oq_makeI conc65 rfl) rfl rfl rfl ?_
   refine WL.q (oq_assign rfl) rfl rfl rfl ?_
   refine WL.nil (WE.then_normal (WC.sub (fr' := [(2, _)]) ?_ ⟨rfl, trivial⟩))
   refine WC.ret (WE.block_ret (WE.then_ret ?_))
   refine WE.f1 ?_
   refine WE.lose hb0_0 ?_
   refine WE.endA0 (.inl rfl) (res1 Tryz.results10 rfl) ?_ (hA12_2)
   exact tokBytes q11 hr12_2 hl
  ·
   try simp only [Z1, Z2, Z3, Z4, Z5, Z6, Z7, Z8, Z9, Z0] at q11
   refine WC.seq (WC.region ?_)
   refine WL.q (oq_eql rfl rfl) rfl rfl rfl ?_
   refine WL.q (oq_assign rfl) rfl rfl rfl ?_
   refine WL.nil (WE.then_normal (WC.sub (fr' := [(1, _), (5, _), (37, _)]) ?_ ⟨rfl, rfl, rfl, trivial⟩))
   refine WC.cond rfl (fun q13 => ?_) (fun q13 => ?_)
   ·
    try simp only [Z1, Z2, Z3, Z4, Z5, Z6, Z7, Z8, Z9, Z0] at q13
    refine WC.seq (WC.region ?_)
    refine WL.q (oq_fieldAddr fld23_3 rfl) rfl rfl rfl ?_
    refine WL.q (oq_load flat9 rfl (.head _) (List.mem_singleton.2 rfl) rfl) rfl rfl rfl ?_
    refine WL.q (oq_makeI conc66 rfl) rfl rfl rfl ?_
    refine WL.q (oq_assign rfl) rfl rfl rfl ?_
    refine WL.nil (WE.then_normal (WC.sub (fr' := [(2, _)]) ?_ ⟨rfl, trivial⟩))
    refine WC.ret (WE.block_ret (WE.then_ret ?_))
    refine WE.lose hb0_0 ?_
    refine WE.add0 ?_
    refine WE.endA0 (.inl rfl) (res1 Tryz.results10 rfl) ?_ fresh0
    exact tokString q13
   ·
    try simp only [Z1, Z2, Z3, Z4, Z5, Z6, Z7, Z8, Z9, Z0] at q13
    refine WC.seq (WC.region ?_)
    refine WL.q (oq_eql rfl rfl) rfl rfl rfl ?_
    refine WL.q (oq_assign rfl) rfl rfl rfl ?_
    refine WL.nil (WE.then_normal (WC.sub (fr' := [(1, _), (5, _), (42, _)]) ?_ ⟨rfl, rfl, rfl, trivial⟩))
    refine WC.cond rfl (fun q15 => ?_) (fun q15 => ?_)
    ·
     try simp only [Z1, Z2, Z3, Z4, Z5, Z6, Z7, Z8, Z9, Z0] at q15
     refine WC.seq ?_
     have htm2 := htm q15
     refine WC.region ?_
     refine WL.q (oq_fieldAddr fld23_2 rfl) rfl rfl rfl ?_
     refine WL.q (oq_load flat2 rfl (.head _) (List.mem_singleton.2 rfl) rfl) rfl rfl rfl ?_
     refine WL.qc (oq_call (unixMilli h.int htm2.1 htm2.2) call19 rfl) rfl rfl rfl ?_
     refine WL.q (oq_makeI conc68 rfl) rfl rfl rfl ?_
     refine WL.q (oq_assign rfl) rfl rfl rfl ?_
     refine WL.nil (WE.then_normal (WC.sub (fr' := [(2, _)]) ?_ ⟨rfl, trivial⟩))
     refine WC.ret (WE.block_ret (WE.then_ret ?_))
     refine WE.lose hb0_0 ?_
     refine WE.add0 ?_
     refine WE.endA0 (.inl rfl) (res1 Tryz.results10 rfl) ?_ fresh0
     exact tokTime q15 htm2.1 htm2.2
    ·
     try simp only [Z1, Z2, Z3, Z4, Z5, Z6, Z7, Z8, Z9, Z0] at q15
     refine WC.seq (WC.region ?_)
     refine WL.q (oq_eql rfl rfl) rfl rfl rfl ?_
     refine WL.q (oq_assign rfl) rfl rfl rfl ?_
     refine WL.nil (WE.then_normal (WC.sub (fr' := [(1, _), (48, _)]) ?_ ⟨rfl, rfl, trivial⟩))
     refine WC.cond rfl (fun q17 => ?_) (fun q17 => ?_)
     ·
      try simp only [Z1, Z2, Z3, Z4, Z5, Z6, Z7, Z8, Z9, Z0] at q17
      refine WC.seq ?_
      have hul := hun q17
      refine WC.region ?_
      refine WL.alloc ty72 rfl rfl fun ub hub => ?_
      refine WL.asB (List.replicate 16 0) rfl ?_
      refine WL.nil (WE.then_normal (WC.sub (fr' := [(1, _), (3, _)]) ?_ ⟨rfl, rfl, trivial⟩))
      refine WC.seq ?_
      refine WC.tailM (pl := []) (ql := [_, _, _]) (tl := [_]) [] [0, 1, 2] 3 [] (by kernel_rfl) (by kernel_rfl) (by kernel_rfl) (by kernel_rfl) (by kernel_rfl) (by kernel_rfl) (by decide) rfl rfl rfl (by decide) (by repeat (first | with_reducible exact QOk.body | with_reducible apply QOk.then | with_reducible apply QOk.block | exact QOk.body | apply QOk.then | apply QOk.block)) ?_
      refine WM.nil ?_
      refine WY.q (oq_sliceArr Tryz.underlying72 ty5 rfl rfl rfl (by (first | (simp only [List.length_replicate]; omega) | omega)) (by (first | (simp only [List.length_replicate]; omega) | omega))) rfl rfl rfl ?_
      refine WY.q (oq_fieldAddr fld23_3 rfl) rfl rfl rfl ?_
      refine WY.q (oq_load flat9 rfl (.tail _ (.head _)) (List.mem_singleton.2 rfl) rfl) rfl rfl rfl ?_
      refine WY.nil ?_
      refine WL.copyBS Tryz.underlying31 ty5 rfl rfl (by (first | (simp only [List.length_replicate]; omega) | omega)) rfl rfl ?_
      refine WL.nil (WE.then_normal (WC.sub (fr' := [(3, _)]) ?_ ⟨rfl, trivial⟩))
      refine WC.seq ?_
      have hcp : List.take (0 + 0) (List.replicate 16 0) ++ List.take (min h.text.length (16 - 0)) h.text ++ List.drop (0 + 0 + min h.text.length (16 - 0)) (List.replicate 16 0) = h.text := by
       rw [hul, List.take_of_length_le (l := h.text) (by omega)]; simp
      rw [hcp]
      refine WC.region ?_
      refine WL.q (oq_loadArr agg72 ty72 (hul) rfl (.head _)) rfl rfl rfl ?_
      refine WL.q (oq_makeI conc72 rfl) rfl rfl rfl ?_
      refine WL.q (oq_assign rfl) rfl rfl rfl ?_
      refine WL.nil (WE.then_normal (WC.sub (fr' := [(2, _)]) ?_ ⟨rfl, trivial⟩))
      refine WC.ret (WE.block_ret (WE.then_ret ?_))
      refine WE.lose hub ?_
      refine WE.lose hb0_0 ?_
      refine WE.add0 ?_
      refine WE.endA0 (.inl rfl) (res1 Tryz.results10 rfl) ?_ fresh0
      exact tokUUID q17 hul
     ·
      try simp only [Z1, Z2, Z3, Z4, Z5, Z6, Z7, Z8, Z9, Z0] at q17
      refine WC.skip (WE.block_normal (WE.then_normal (WC.sub (fr' := [(1, _)]) ?_ ⟨rfl, trivial⟩)))
      refine WC.seq (WC.region ?_)
      refine WL.q (oq_fieldAddr fld23_2 rfl) rfl rfl rfl ?_
      refine WL.q (oq_load flat2 rfl (.head _) (List.mem_singleton.2 rfl) rfl) rfl rfl rfl ?_
      refine WL.q (oq_neq rfl rfl) rfl rfl rfl ?_
      refine WL.q (oq_makeI conc73 rfl) rfl rfl rfl ?_
      refine WL.q (oq_assign rfl) rfl rfl rfl ?_
      refine WL.nil (WE.then_normal (WC.sub (fr' := [(2, _)]) ?_ ⟨rfl, trivial⟩))
      refine WC.ret ?_
      refine WE.lose hb0_0 ?_
      refine WE.add0 ?_
      refine WE.endA0 (.inl rfl) (res1 Tryz.results10 rfl) ?_ fresh0
      exact tokBool (by omega)
theorem vText (h : HV) (hf : fineV h) (h1 : -9223372036854775808 ≤ h.int) (h2 : h.int ≤ 9223372036854775807) (hl : h.text.length ≤ 400000) (G : Hp) (hG : Tb G) : FnR Tryz.prog 7 [.agg #[I h.kind, I h.width, I h.int, S h.text]] G (S (textV h)) := by
 refine FnR.enter (n := 6) Tryz.func7 rfl rfl fun w0 => ?_
 refine WC.sub (fr' := [(0, _)]) ?_ ⟨rfl, trivial⟩
 refine WC.seq (WC.region ?_)
 refine WL.box rfl rfl rfl fun xb hxb => ?_
 refine WL.q (oq_assign rfl) rfl rfl rfl ?_
 refine WL.nil (WE.then_normal (WC.sub (fr' := [(1, _)]) ?_ ⟨rfl, trivial⟩))
 refine WC.seq (WC.region ?_)
 refine WL.q (oq_loadS [_, _, _, _] agg23 ty23 rfl (.head _) (List.mem_singleton.2 rfl) rfl rfl) rfl rfl rfl ?_
 refine WL.callA0 (valueForT h hf h1 h2 hl) call10 rfl rfl rfl fun v1_1 N1_1 hR1_1 hN1_1 => ?_
 obtain ⟨k1, r1, f1, rfl, hi1, hf1⟩ := hR1_1
 refine WL.f2 ?_
 refine WL.f1 ?_
 refine WL.cat ?_
 refine WL.callWE (fun a w hf => ent_inv0 hi1 rfl hf w) (fnRW (hf1 (N1_1 ++ G) (fun x hx => List.mem_append_left _ hx) (hG.weaken fun x hx => List.mem_append_right _ hx))) rfl rfl rfl rfl fun v1_2 Hs1_2 hR1_2 => ?_
 obtain ⟨rfl, rfl⟩ := hR1_2
 refine WL.app1 ?_
 refine WL.uncat ?_
 refine WL.q (oq_assign rfl) rfl rfl rfl ?_
 refine WL.nil (WE.then_normal (WC.sub (fr' := [(2, _)]) ?_ ⟨rfl, trivial⟩))
 refine WC.ret ?_
 refine WE.forget hN1_1 ?_
 refine WE.f1 ?_
 refine WE.lose hxb ?_
 refine WE.endR (.inl rfl) (res1 Tryz.results7 rfl) ?_
 rfl
end TJ
end Go.Proofs.YtinkaobaboffcaaGreatDoor
/- The law: a value's text is what the reference tells. -/
namespace Go.Proofs.YtinkaobaboffcaaGreatDoor
open Go Go.RowKit V EA EB EC EE EF EG EH EI TA TB TC TD TE TF TG TH TI ER ES TJ EJ EO
set_option linter.unusedSimpArgs false
set_option linter.unusedVariables false
set_option maxRecDepth 10000
namespace TK
theorem call4 : Callable Tryz.prog 4 := ⟨_, Tryz.func4, rfl, by kernel_rfl⟩
theorem call5 : Callable Tryz.prog 5 := ⟨_, Tryz.func5, rfl, by kernel_rfl⟩
theorem call6 : Callable Tryz.prog 6 := ⟨_, Tryz.func6, rfl, by kernel_rfl⟩
theorem call7 : Callable Tryz.prog 7 := ⟨_, Tryz.func7, rfl, by kernel_rfl⟩
theorem call8 : Callable Tryz.prog 8 := ⟨_, Tryz.func8, rfl, by kernel_rfl⟩
theorem flat9 : Flat Tryz.prog 9 := ⟨_, Tryz.underlying9, by simp⟩
theorem ty9 : Ty Tryz.prog 9 (S []) 1 16 := ty_of (by kernel_rfl)
theorem ty23 : Ty Tryz.prog 23 (.agg #[(.int .i64 0), (.int .i64 0), (.int .i64 0), (S [])]) 4 40 := ty_of (by kernel_rfl)
theorem ty27 : Ty Tryz.prog 27 (.agg #[(S []), (.int .i64 0), (.int .i64 0), (.int .i64 0), (S [])]) 5 56 := ty_of (by kernel_rfl)
theorem agg23 : Agg Tryz.prog 23 := agg_of Tryz.underlying23
theorem str27 : Str Tryz.prog 27 #[(0, 1), (1, 4)] := ⟨_, Tryz.underlying27, fun w => by kernel_rfl⟩
theorem fld23_3 : Fld Tryz.prog 23 3 3 9 := fld_of Tryz.underlying23 rfl rfl rfl ty9 (by decide)
theorem fine1 {h : HV} (h2 : ([⟨[], h.kind, h.width, h.int, h.text⟩] : List HV).all fineB = true) : fineV h := by
 rw [List.all_cons, Bool.and_eq_true] at h2
 exact of_decide_eq_true h2.1
theorem law (h : HV) (h1 : -9223372036854775808 ≤ h.int) (h2 : h.int ≤ 9223372036854775807) (hw : intOk [⟨[], h.kind, h.width, h.int, h.text⟩]) (G : Hp) (hG : Tb G) : FnR Tryz.prog 3 [.agg #[I h.kind, I h.width, I h.int, S h.text]] G (.bool true) := by
 refine FnR.enter (n := 26) Tryz.func3 rfl rfl fun w0 => ?_
 refine WC.sub (fr' := [(0, _)]) ?_ ⟨rfl, trivial⟩
 refine WC.seq (WC.region ?_)
 refine WL.box rfl rfl rfl fun xb hxb => ?_
 refine WL.q (oq_assign rfl) rfl rfl rfl ?_
 refine WL.nil (WE.then_normal (WC.sub (fr' := [(1, _)]) ?_ ⟨rfl, trivial⟩))
 refine WC.seq (WC.seq (WC.region ?_))
 refine WL.q (oq_loadS [_, _, _, _] agg23 ty23 rfl (.head _) (List.mem_singleton.2 rfl) rfl rfl) rfl rfl rfl ?_
 refine WL.qc (oq_call (fits6 h) call4 rfl) rfl rfl rfl ?_
 refine WL.q (oq_not rfl) rfl rfl rfl ?_
 refine WL.nil (WE.then_normal (WC.sub (fr' := [(1, _), (5, _)]) ?_ ⟨rfl, rfl, trivial⟩))
 refine WC.cond rfl (fun q1 => ?_) (fun q1 => ?_)
 ·
  try simp only [Z1, Z2, Z3, Z4, Z5, Z6, Z7, Z8, Z9, Z0] at q1
  refine WC.seq (WC.region ?_)
  refine WL.q (oq_assign rfl) rfl rfl rfl ?_
  refine WL.nil (WE.then_normal (WC.sub (fr' := [(2, _)]) ?_ ⟨rfl, trivial⟩))
  refine WC.ret (WE.then_ret ?_)
  refine WE.lose hxb ?_
  refine WE.endR (.inl rfl) (res1 Tryz.results3 rfl) ?_
  first | rfl | (exfalso; simp_all; done)
 ·
  try simp only [Z1, Z2, Z3, Z4, Z5, Z6, Z7, Z8, Z9, Z0] at q1
  refine WC.skip (WE.then_normal (WC.sub (fr' := [(1, _)]) ?_ ⟨rfl, trivial⟩))
  refine WC.seq (WC.seq (WC.region ?_))
  refine WL.q (oq_loadS [_, _, _, _] agg23 ty23 rfl (.head _) (List.mem_singleton.2 rfl) rfl rfl) rfl rfl rfl ?_
  refine WL.q (oq_build (#[S [], I h.kind, I h.width, I h.int, S h.text]) str27 ty27 rfl (by kernel_rfl)) rfl rfl rfl ?_
  refine WL.buildSS (#[S [], I h.kind, I h.width, I h.int, S h.text]) Tryz.underlying28 ty27 rfl (by decide) (by decide) (by kernel_rfl) (by kernel_rfl) rfl rfl fun v3_2 A3_2 ho3_2 hne3_2 => ?_
  refine WL.qc (oq_callRm (vFine _ _ [⟨[], h.kind, h.width, h.int, h.text⟩] ho3_2.rd hw (by simp)) (.head _) call5 rfl) rfl rfl rfl ?_
  refine WL.q (oq_not rfl) rfl rfl rfl ?_
  refine WL.q (oq_move rfl) rfl rfl rfl ?_
  refine WL.split 11 rfl (fun s3_5 => ?_) (fun s3_5 => ?_)
  ·
   try simp only [Z1, Z2, Z3, Z4, Z5, Z6, Z7, Z8, Z9, Z0] at s3_5
   refine WL.skip rfl rfl rfl ?_
   refine WL.skip rfl rfl rfl ?_
   refine WL.skip rfl rfl rfl ?_
   refine WL.skip rfl rfl rfl ?_
   refine WL.q (oq_pick_t rfl rfl) rfl rfl rfl ?_
   refine WL.nil (WE.then_normal (WC.sub (fr' := [(1, _), (16, _)]) ?_ ⟨rfl, rfl, trivial⟩))
   refine WC.cond_t rfl ?_
   refine WC.seq (WC.region ?_)
   refine WL.qc (oq_call (vAwake) call6 rfl) rfl rfl rfl ?_
   refine WL.q (oq_assign rfl) rfl rfl rfl ?_
   refine WL.nil (WE.then_normal (WC.sub (fr' := [(2, _)]) ?_ ⟨rfl, trivial⟩))
   refine WC.ret (WE.then_ret ?_)
   refine WE.forget ho3_2.fresh ?_
   refine WE.lose hxb ?_
   refine WE.endR (.inl rfl) (res1 Tryz.results3 rfl) ?_
   first | rfl | (exfalso; simp_all; done)
  ·
   try simp only [Z1, Z2, Z3, Z4, Z5, Z6, Z7, Z8, Z9, Z0] at s3_5
   refine WL.q (oq_fieldAddr fld23_3 rfl) rfl rfl rfl ?_
   refine WL.q (oq_load flat9 rfl (.tail _ (.head _)) (List.mem_singleton.2 rfl) rfl) rfl rfl rfl ?_
   refine WL.q (oq_len_s Tryz.underlying9 rfl) rfl rfl rfl ?_
   refine WL.q (oq_gtr rfl rfl) rfl rfl rfl ?_
   refine WL.q (oq_pick_f rfl rfl) rfl rfl rfl ?_
   refine WL.nil (WE.then_normal (WC.sub (fr' := [(1, _), (16, _)]) ?_ ⟨rfl, rfl, trivial⟩))
   refine WC.cond rfl (fun q3 => ?_) (fun q3 => ?_)
   ·
    try simp only [Z1, Z2, Z3, Z4, Z5, Z6, Z7, Z8, Z9, Z0] at q3
    refine WC.seq (WC.region ?_)
    refine WL.qc (oq_call (vAwake) call6 rfl) rfl rfl rfl ?_
    refine WL.q (oq_assign rfl) rfl rfl rfl ?_
    refine WL.nil (WE.then_normal (WC.sub (fr' := [(2, _)]) ?_ ⟨rfl, trivial⟩))
    refine WC.ret (WE.then_ret ?_)
    refine WE.forget ho3_2.fresh ?_
    refine WE.lose hxb ?_
    refine WE.endR (.inl rfl) (res1 Tryz.results3 rfl) ?_
    first | rfl | (exfalso; simp_all; done)
   ·
    try simp only [Z1, Z2, Z3, Z4, Z5, Z6, Z7, Z8, Z9, Z0] at q3
    refine WC.skip (WE.then_normal (WC.sub (fr' := [(1, _)]) ?_ ⟨rfl, trivial⟩))
    refine WC.seq ?_
    have hf := fine1 (s3_5)
    refine WC.quiet (by kernel_rfl) (by kernel_rfl) ?_
    refine WQ.q (oq_loadS [_, _, _, _] agg23 ty23 rfl (.tail _ (.head _)) (List.mem_singleton.2 rfl) rfl rfl) rfl rfl rfl ?_
    refine WQ.qc (oq_callRm (vText h hf h1 h2 (by omega) G hG) (.tail _ (.tail _ (.head _))) call7 rfl) rfl rfl rfl ?_
    refine WQ.q (oq_loadS [_, _, _, _] agg23 ty23 rfl (.tail _ (.head _)) (List.mem_singleton.2 rfl) rfl rfl) rfl rfl rfl ?_
    refine WQ.qc (oq_callRm (vTextOf h hf h1 h2 (by omega) G hG) (.tail _ (.tail _ (.head _))) call8 rfl) rfl rfl rfl ?_
    refine WQ.q (oq_seql rfl rfl) rfl rfl rfl ?_
    refine WQ.q (oq_move rfl) rfl rfl rfl ?_
    refine WQ.split 23 rfl (fun s5_5 => ?_) (fun s5_5 => ?_)
    ·
     try simp only [Z1, Z2, Z3, Z4, Z5, Z6, Z7, Z8, Z9, Z0] at s5_5
     refine WQ.qc (oq_call (vAwake) call6 rfl) rfl rfl rfl ?_
     refine WQ.q (oq_pick_t rfl rfl) rfl rfl rfl ?_
     refine WQ.q (oq_assign rfl) rfl rfl rfl ?_
     refine WQ.nil (WE.then_normal (WC.sub (fr' := [(2, _)]) ?_ ⟨rfl, trivial⟩))
     refine WC.ret ?_
     refine WE.forget ho3_2.fresh ?_
     refine WE.lose hxb ?_
     refine WE.endR (.inl rfl) (res1 Tryz.results3 rfl) ?_
     first | rfl | (exfalso; simp_all; done)
    ·
     try simp only [Z1, Z2, Z3, Z4, Z5, Z6, Z7, Z8, Z9, Z0] at s5_5
     refine WQ.skip rfl rfl rfl ?_
     refine WQ.q (oq_pick_f rfl rfl) rfl rfl rfl ?_
     refine WQ.q (oq_assign rfl) rfl rfl rfl ?_
     refine WQ.nil (WE.then_normal (WC.sub (fr' := [(2, _)]) ?_ ⟨rfl, trivial⟩))
     refine WC.ret ?_
     refine WE.forget ho3_2.fresh ?_
     refine WE.lose hxb ?_
     refine WE.endR (.inl rfl) (res1 Tryz.results3 rfl) ?_
     first | rfl | (exfalso; simp_all; done)
end TK
end Go.Proofs.YtinkaobaboffcaaGreatDoor
/- Headers and messages that come in. -/
namespace Go.Proofs.YtinkaobaboffcaaGreatDoor
open Go Go.RowKit Go.ChangeShapes Go.WideShapes V EI EJ ER
set_option linter.unusedVariables false
set_option linter.unusedSimpArgs false
namespace ET
theorem cS : Tryz.prog.cellsOf 9 = 1 := by kernel_rfl
theorem cI : Tryz.prog.cellsOf 3 = 1 := by kernel_rfl
theorem cJ : Tryz.prog.cellsOf 2 = 1 := by kernel_rfl
theorem cV : Tryz.prog.cellsOf 23 = 4 := by kernel_rfl
def okI (x : Int) : Prop := -9223372036854775808 ≤ x ∧ x ≤ 9223372036854775807
def okV (h : HV) : Prop := okI h.int ∧ okI h.width ∧ okI h.kind
theorem wfI {n : Int} (h : (Lit.int .i64 n).wf = true) : okI n := by
 have := wf_bounds h
 rw [i64_lo, i64_hi] at this; exact this
section
variable {H : Type} {enc : TypeId × Value → H} {W : World}
set_option maxRecDepth 100000 in
theorem val_cells {n : Nat} {cs : List Value} {y : DataW H × List MemPlace} (h : DataW.trod enc Tryz.prog W 0 (fun _ => true) true n 23 cs = some y) (hl : cs.length = 4) : ∃ x : HV, cs = [I x.kind, I x.width, I x.int, S x.text] ∧ okV x := by
 obtain ⟨xs, m, _, rfl, _, hlen, hf⟩ := DataW.trod_struct Tryz.underlying23 h
 match xs, hlen with
 | [y0, y1, y2, y3], _ =>
  match cs, hl with
  | [a, b, c, d], _ =>
   have k0 : DataW.trod enc Tryz.prog W 0 (fun _ => true) true m 3 (([a, b, c, d].drop 0).take (Tryz.prog.cellsOf 3)) = some y0 := hf 0 _ rfl
   have k1 : DataW.trod enc Tryz.prog W 0 (fun _ => true) true m 3 (([a, b, c, d].drop 1).take (Tryz.prog.cellsOf 3)) = some y1 := hf 1 _ rfl
   have k2 : DataW.trod enc Tryz.prog W 0 (fun _ => true) true m 2 (([a, b, c, d].drop 2).take (Tryz.prog.cellsOf 2)) = some y2 := hf 2 _ rfl
   have k3 : DataW.trod enc Tryz.prog W 0 (fun _ => true) true m 9 (([a, b, c, d].drop 3).take (Tryz.prog.cellsOf 9)) = some y3 := hf 3 _ rfl
   rw [cI] at k0 k1
   rw [cJ] at k2
   rw [cS] at k3
   obtain ⟨s0, e0, _, w0⟩ := DataW.trod_int Tryz.underlying3 k0
   obtain ⟨s1, e1, _, w1⟩ := DataW.trod_int Tryz.underlying3 k1
   obtain ⟨s2, e2, _, w2⟩ := DataW.trod_int Tryz.underlying2 k2
   obtain ⟨s3, e3, _⟩ := DataW.trod_string Tryz.underlying9 k3
   simp at e0 e1 e2 e3
   subst e0; subst e1; subst e2; subst e3
   obtain ⟨⟨s3⟩⟩ := s3
   exact ⟨⟨[], s0, s1, s2, s3⟩, rfl, wfI w2, wfI w1, wfI w0⟩
theorem int_of {l : List HV} (h : ∀ x ∈ l, okV x) : intOk l := fun i hi => by
 have := h (l.getD i HV0) (by rw [List.getD_eq_getElem?_getD, List.getElem?_eq_getElem hi]; exact List.getElem_mem hi)
 exact ⟨this.1.1, this.1.2, this.2.1.1, this.2.1.2⟩
set_option maxRecDepth 100000 in
theorem arg_val {base : Nat} {r : Reach} {v : Value} {d : DataW H} {ps : List MemPlace} (hval : Value.okWide Tryz.prog W r base 23 v) (h : DataW.Trod enc Tryz.prog W 0 (fun _ => true) true 23 v d ps) :
  ∃ x : HV, v = .agg #[I x.kind, I x.width, I x.int, S x.text] ∧ okV x := by
 obtain ⟨cs, rfl, hsz⟩ := okWide_struct Tryz.underlying23 hval
 obtain ⟨fuel, hfu⟩ := h
 obtain ⟨x, e, hx⟩ := val_cells hfu (by show cs.toList.length = 4; rw [Array.length_toList, hsz, cV])
 refine ⟨x, ?_, hx⟩
 obtain ⟨cs⟩ := cs
 simp [Value.cells] at e
 rw [e]
end
end ET
end Go.Proofs.YtinkaobaboffcaaGreatDoor
/- What the listed tables of the texts' row hold. -/
namespace Go.Proofs.YtinkaobaboffcaaGreatDoor
open Go V TG TI ER
set_option linter.unusedVariables false
set_option maxRecDepth 100000
namespace TL
theorem laid_tab {P : Program} {w : World} {n : String} {g : Nat} {t e : TypeId} {m : Nat} {k : IntKind} {zs : List Int} {r : List (String × DataW Unit)} {ps : List MemPlace} (hg : P.globalNamed n = some g) (hty : (P.globals[g]?).map (·.type) = some t) (ht : P.underlying t = some (.array m e)) (he : P.underlying e = some (.int k)) (hce : P.cellsOf e = 1) (hct : P.cellsOf t = m) (h : DataW.LaidVars P w ((n, Lib.tabData k zs) :: r) ps) :
  (∃ t f, w.heap[g]? = some (.cells (zs.map fun z => Value.int k z).toArray t f)) ∧ ∃ q, DataW.LaidVars P w r q := by
 obtain ⟨g', t', cs, fuel, p, q, hg', ht', hvar, hd, hr, rfl⟩ := h
 obtain rfl := Option.some.inj (hg.symm.trans hg')
 obtain rfl := Option.some.inj (hty.symm.trans ht')
 have e1 := Lib.cells_of_tab ht he hce hct hd
 have e2 : cs = (zs.map fun z => Value.int k z).toArray := by rw [← e1]
 rw [e2] at hvar
 exact ⟨var_heap hg hvar, q, hr⟩
def tab32 : List Int := [0, 1, 28, 2, 29, 14, 24, 3, 30, 22, 20, 15, 25, 17, 4, 8, 31, 27, 13, 23, 21, 19, 16, 7, 26, 12, 18, 6, 11, 5, 10, 9]
def tab64 : List Int := [0, 1, 56, 2, 57, 49, 28, 3, 61, 58, 42, 50, 38, 29, 17, 4, 62, 47, 59, 36, 45, 43, 51, 22, 53, 39, 33, 30, 24, 18, 12, 5, 63, 55, 48, 27, 60, 41, 37, 16, 46, 35, 44, 21, 52, 32, 23, 11, 54, 26, 40, 15, 34, 20, 31, 10, 25, 14, 19, 9, 13, 8, 7, 6]
theorem is32 : (Rows.laid_math_bits_deBruijn32tab : DataW Unit) = Lib.tabData .u8 tab32 := by kernel_rfl
theorem is64 : (Rows.laid_math_bits_deBruijn64tab : DataW Unit) = Lib.tabData .u8 tab64 := by kernel_rfl
theorem isPow : (Rows.laid_internal_strconv_uint64pow10 : DataW Unit) = Lib.tabData .u64 Lib.pow10Tab := by kernel_rfl
theorem g4 : Tryz.prog.globalNamed "math/bits.deBruijn32tab" = some 4 := by kernel_rfl
theorem g5 : Tryz.prog.globalNamed "math/bits.deBruijn64tab" = some 5 := by kernel_rfl
theorem t4 : (Tryz.prog.globals[4]?).map (·.type) = some 142 := by kernel_rfl
theorem t5 : (Tryz.prog.globals[5]?).map (·.type) = some 143 := by kernel_rfl
theorem t0 : (Tryz.prog.globals[0]?).map (·.type) = some 125 := by kernel_rfl
theorem vtexts_laid {W : World} (h : laidMetH Tryz.prog Rows.fnVTextsRow.laid W) : ∃ G, Has G W ∧ Tb G := by
 rw [Go.MakeChecks.laidMetH_plain _ _ _ (by kernel_rfl)] at h
 obtain ⟨ps, hl, _, hall⟩ := h
 have hl : DataW.LaidVars Tryz.prog W (("math/bits.deBruijn32tab", Rows.laid_math_bits_deBruijn32tab) :: ("math/bits.deBruijn64tab", Rows.laid_math_bits_deBruijn64tab) :: ("internal/strconv.uint64pow10", Rows.laid_internal_strconv_uint64pow10) :: Rows.fnVTextsRow.laid.drop 3) ps := hl
 rw [is32, is64, isPow] at hl
 obtain ⟨_, q1, hl⟩ := laid_tab g4 t4 Tryz.underlying142 Tryz.underlying5 (by kernel_rfl) (by kernel_rfl) hl
 obtain ⟨⟨ty5, f5, h5⟩, q2, hl⟩ := laid_tab g5 t5 Tryz.underlying143 Tryz.underlying5 (by kernel_rfl) (by kernel_rfl) hl
 obtain ⟨⟨ty0, f0, h0⟩, q3, hl⟩ := laid_tab gpow t0 Tryz.underlying125 Tryz.underlying40 (by kernel_rfl) (by kernel_rfl) hl
 refine ⟨[(5, .cells (tab64.map fun z => Value.int .u8 z).toArray ty5 f5), (0, .cells (Lib.pow10Tab.map fun z => Value.int .u64 z).toArray ty0 f0)], ⟨fun b o hb => ?_, by simp⟩, ⟨_, _, _, .head _, by kernel_rfl⟩, _, _, .tail _ (.head _)⟩
 simp only [List.mem_cons, Prod.mk.injEq, List.not_mem_nil, or_false] at hb
 rcases hb with ⟨rfl, rfl⟩ | ⟨rfl, rfl⟩
 ·exact h5
 ·exact h0
open EI in
theorem int1 {x : HV} (h : ET.okV x) : intOk [⟨[], x.kind, x.width, x.int, x.text⟩] := ET.int_of (l := [⟨[], x.kind, x.width, x.int, x.text⟩]) fun y hy => by
 rw [List.mem_singleton] at hy
 subst hy; exact h
end TL
end Go.Proofs.YtinkaobaboffcaaGreatDoor
