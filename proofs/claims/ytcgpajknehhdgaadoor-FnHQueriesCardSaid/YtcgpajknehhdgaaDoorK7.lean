/- Walks of the trimming of a byte at the ends of a text. -/
import Derived.Test.YtcgpajknehhdgaaDoorKS
import Derived.Test.YtcgpajknehhdgaaDoorVA
import Derived.Test.YtcgpajknehhdgaaDoorL2
namespace Go.Proofs.YtcgpajknehhdgaaDoor
open Go Go.RowKit V L2
set_option linter.unusedSimpArgs false
set_option linter.unusedVariables false
set_option maxRecDepth 10000
namespace K7
theorem call64 : Callable Tryd.prog 64 := ⟨_, Tryd.func64, rfl, by kernel_rfl⟩
theorem call79 : Callable Tryd.prog 79 := ⟨_, Tryd.func79, rfl, by kernel_rfl⟩
theorem call80 : Callable Tryd.prog 80 := ⟨_, Tryd.func80, rfl, by kernel_rfl⟩
theorem call93 : Callable Tryd.prog 93 := ⟨_, Tryd.func93, rfl, by kernel_rfl⟩
theorem call94 : Callable Tryd.prog 94 := ⟨_, Tryd.func94, rfl, by kernel_rfl⟩
theorem call95 : Callable Tryd.prog 95 := ⟨_, Tryd.func95, rfl, by kernel_rfl⟩
theorem call105 : Callable Tryd.prog 105 := ⟨_, Tryd.func105, rfl, by kernel_rfl⟩

/-! ### The tables of unicode/utf8, and the two decoders by the shelf's contracts -/
def Tabs (T : Hp) : Prop := ∀ w, Has T w → Lib.Utf8Tabs 8 9 w
theorem st_below {T : Hp} {w w' : World} (hw : Has T w) (h : Below w.heap.size w w') : St w T w' :=
  ⟨h.os, h.tape, h.output, h.size, fun k hk _ => h.block k hk, fun b o hb => by
    have h1 := hw.now b o hb
    rw [h.block b (Array.getElem?_eq_some_iff.1 h1).1, h1], hw.nodup⟩
theorem decFirst {T : Hp} (hT : Tabs T) (s : List UInt8) : FnR Tryd.prog 94 [S s] T (.tuple #[.int .i32 ((Lib.decodeGo ⟨⟨s⟩⟩).1 : Int), I ((Lib.decodeGo ⟨⟨s⟩⟩).2 : Int)]) := by
  intro w hw
  refine Calls.mono (Tryd.utf8_DecodeRuneInString ⟨⟨s⟩⟩ w (hT w hw)) ?_
  rintro e w' ⟨rfl, hb⟩
  exact ⟨rfl, st_below hw hb⟩
theorem decLast {T : Hp} (hT : Tabs T) (s : List UInt8) (hs : s.length ≤ 9223372036854775807) : FnR Tryd.prog 105 [S s] T (.tuple #[.int .i32 ((Lib.decodeLastL s).1 : Int), I ((Lib.decodeLastL s).2 : Int)]) := by
  intro w hw
  refine Calls.mono (Tryd.utf8_DecodeLastRuneInString ⟨⟨s⟩⟩ w hs (hT w hw)) ?_
  rintro e w' ⟨rfl, hb⟩
  exact ⟨rfl, st_below hw hb⟩
/-! ### Words: a byte at the ends -/
def lead : List UInt8 → Nat
  | [] => 0
  | c :: r => if c = 38 then lead r + 1 else 0
theorem lead_le : ∀ l : List UInt8, lead l ≤ l.length
  | [] => Nat.le_refl _
  | c :: r => by
    have := lead_le r
    unfold lead; split <;> simp <;> omega
theorem lead_step (l : List UInt8) (i : Nat) (h : i < l.length) : lead (l.drop i) = if byteAt l i = 38 then lead (l.drop (i + 1)) + 1 else 0 := by
  rw [List.drop_eq_getElem_cons h, byteAt_get l i h]
  show (if _ then _ else _) = _
  by_cases hc : l[i] = 38
  · rw [if_pos hc, if_pos (by rw [hc]; rfl)]
  · rw [if_neg hc, if_neg (by intro e; apply hc; apply UInt8.toNat_inj.1; have : (38 : UInt8).toNat = 38 := rfl; omega)]
def tl (l : List UInt8) : Nat := l.length - lead l.reverse
theorem tl_le (l : List UInt8) : tl l ≤ l.length := by unfold tl; omega
theorem tl_snoc (m : List UInt8) (c : UInt8) : tl (m ++ [c]) = if c = 38 then tl m else m.length + 1 := by
  have := lead_le m.reverse
  rw [List.length_reverse] at this
  unfold tl
  rw [List.reverse_append, List.length_append]
  show _ - (if _ then _ else _) = _
  split <;> simp <;> omega
theorem tl_step (l : List UInt8) (i : Nat) (h0 : 0 < i) (h : i ≤ l.length) : tl (l.take i) = if byteAt l ((i - 1 : Nat) : Int) = 38 then tl (l.take (i - 1)) else i := by
  obtain ⟨j, rfl⟩ : ∃ j, i = j + 1 := ⟨i - 1, by omega⟩
  rw [List.take_succ_eq_append_getElem (by omega), tl_snoc, Nat.add_sub_cancel, byteAt_get l j (by omega), List.length_take, Nat.min_eq_left (by omega)]
  by_cases hc : l[j] = 38
  · rw [if_pos hc, if_pos (by rw [hc]; rfl)]
  · rw [if_neg hc, if_neg (by intro e; apply hc; apply UInt8.toNat_inj.1; have : (38 : UInt8).toNat = 38 := rfl; omega)]
def TL (l : List UInt8) : List UInt8 := l.drop (lead l)
def TR (l : List UInt8) : List UInt8 := l.take (tl l)
def trimA (l : List UInt8) : List UInt8 := TR (TL l)
theorem trimA_len (l : List UInt8) : (trimA l).length ≤ l.length := by unfold trimA TR TL; simp; omega
def idx (l : List UInt8) : Int := if lead l = l.length then -1 else (lead l : Int)
/-- the rune at a place is '&' just where the byte is -/
theorem amp_at (s : List UInt8) (i : Nat) (h : i < s.length) : ((decAt s i).1 = 38 ↔ byteAt s i = 38) ∧ ((decAt s i).1 = 38 → (decAt s i).2 = 1) := by
  rw [byteAt_get s i h]
  rcases Nat.lt_or_ge s[i].toNat 128 with h1 | h1
  · have e : decAt s i = (s[i].toNat, 1) := decAt_ascii s i h h1
    rw [e]; exact ⟨by constructor <;> intro h <;> (have h' : s[i].toNat = 38 := by (first | exact h | omega)) <;> (first | exact h' | (show (s[i].toNat : Int) = 38; omega)), fun _ => rfl⟩
  · have e : 128 ≤ (decAt s i).1 := decAt_wide s i h (by omega)
    exact ⟨⟨fun h2 => by omega, fun h2 => by omega⟩, fun h2 => by omega⟩
/-- the last rune of a beginning is '&' just where its last byte is -/
theorem cut_take (s : List UInt8) (i : Nat) : cut s (0 : Int) (i : Int) = s.take i := by unfold cut; simp
theorem dl_amp (l : List UInt8) (h : 0 < l.length) : (Lib.decodeL l).1 = 38 → l.getD 0 0 = 38 ∧ (Lib.decodeL l).2 = 1 := by
  intro h2
  have ha := amp_at l 0 h
  have e : decAt l 0 = Lib.decodeL l := rfl
  rw [e] at ha
  have h3 := ha.1.1 h2
  refine ⟨?_, ha.2 h2⟩
  have h4 : ((l.getD 0 0).toNat : Int) = 38 := h3
  apply UInt8.toNat_inj.1
  have : (38 : UInt8).toNat = 38 := rfl
  omega
theorem last_amp (s : List UInt8) (i : Nat) (h0 : 0 < i) (h : i ≤ s.length) : ((Lib.decodeLastL (s.take i)).1 = 38 ↔ byteAt s ((i - 1 : Nat) : Int) = 38) ∧ ((Lib.decodeLastL (s.take i)).1 = 38 → (Lib.decodeLastL (s.take i)).2 = 1) ∧ 1 ≤ (Lib.decodeLastL (s.take i)).2 ∧ (Lib.decodeLastL (s.take i)).2 ≤ i := by
  have hw := Lib.decodeLastL_width (s.take i) (by rw [List.length_take]; omega)
  rw [List.length_take, Nat.min_eq_left h] at hw
  have hb : byteAt s ((i - 1 : Nat) : Int) = ((s.getD (i - 1) 0).toNat : Int) := rfl
  rw [hb]
  rcases Lib.last_cases s i h0 h with ⟨h1, e⟩ | ⟨h1, e⟩ | ⟨h1, st, hst, e, hsum⟩
  · rw [e] at hw ⊢
    exact ⟨⟨fun h2 => by (have h3 : (s.getD (i - 1) 0).toNat = 38 := h2); omega, fun h2 => by show (s.getD (i - 1) 0).toNat = 38; omega⟩, fun _ => rfl, hw⟩
  · rw [e] at hw ⊢
    exact ⟨⟨fun h2 => absurd h2 (by decide), fun h2 => by omega⟩, fun h2 => absurd h2 (by decide), hw⟩
  · have hd : (Lib.decodeL ((s.take i).drop st)).1 = 38 → False := fun h2 => by
      obtain ⟨h3, h4⟩ := dl_amp _ (by rw [List.length_drop, List.length_take]; omega) h2
      rw [h4] at hsum
      have : st = i - 1 := by omega
      subst this
      rw [Lib.getD_dropU, Nat.add_zero, Lib.getD_takeU _ _ _ hst] at h3
      rw [h3] at h1
      exact absurd h1 (by decide)
    rw [e] at hw ⊢
    exact ⟨⟨fun h2 => (hd h2).elim, fun h2 => by omega⟩, fun h2 => (hd h2).elim, hw⟩
def lidx (s : List UInt8) : Int := if tl s = 0 then -1 else (tl s : Int) - ((Lib.decodeLastL (s.take (tl s))).2 : Int)
theorem tl_at (s : List UInt8) : ∀ i, i ≤ s.length → tl (s.take i) = i ∨ (tl (s.take i) < i ∧ s.getD (tl (s.take i)) 0 = 38)
  | 0, _ => .inl (by simp [tl])
  | i + 1, h => by
    rw [tl_step s (i + 1) (by omega) h, Nat.add_sub_cancel]
    split
    · rename_i hc
      have h4 : ((s.getD i 0).toNat : Int) = 38 := hc
      have h5 : s.getD i 0 = 38 := by
        apply UInt8.toNat_inj.1
        have : (38 : UInt8).toNat = 38 := rfl
        omega
      rcases tl_at s i (by omega) with e | ⟨e, e2⟩
      · exact .inr ⟨by omega, by rw [e]; exact h5⟩
      · exact .inr ⟨by omega, e2⟩
    · exact .inl rfl
theorem open_tl (s : List UInt8) : Lib.OpenAt s (tl s) := by
  have h := tl_at s s.length (Nat.le_refl _)
  rw [List.take_length] at h
  rcases h with e | ⟨_, e⟩
  · exact .inl e
  · exact .inr (by rw [e]; decide)
theorem right_w (s : List UInt8) (h : tl s ≠ 0) : 0 ≤ lidx s ∧ lidx s < (s.length : Int) ∧ ((Lib.decodeGo ⟨⟨cut s (lidx s) (s.length : Int)⟩⟩).2 : Int) = (tl s : Int) - lidx s := by
  have h1 := tl_le s
  have hw := (last_amp s (tl s) (by omega) h1).2.2
  have hf := Lib.fw_width s (tl s) (by omega) h1 (open_tl s)
  have e : lidx s = ((tl s - (Lib.decodeLastL (s.take (tl s))).2 : Nat) : Int) := by unfold lidx; rw [if_neg h]; omega
  have hc : cut s (lidx s) (s.length : Int) = s.drop (tl s - (Lib.decodeLastL (s.take (tl s))).2) := by
    rw [e]; unfold cut
    rw [Int.toNat_natCast, Int.toNat_natCast, List.take_length]
  refine ⟨by omega, by omega, ?_⟩
  rw [hc]
  have hl : (s.drop (tl s - (Lib.decodeLastL (s.take (tl s))).2)).length ≠ 0 := by rw [List.length_drop]; omega
  have hg : Lib.decodeGo ⟨⟨s.drop (tl s - (Lib.decodeLastL (s.take (tl s))).2)⟩⟩ = Lib.decodeL (s.drop (tl s - (Lib.decodeLastL (s.take (tl s))).2)) := if_neg hl
  rw [hg, hf, e]
  omega
theorem lidx_no (s : List UInt8) (h : ¬ 0 ≤ lidx s) : tl s = 0 := by
  rcases Nat.eq_zero_or_pos (tl s) with e | e
  · exact e
  · exact absurd (right_w s (by omega)).1 h
theorem idx_rng (s : List UInt8) : (idx s = -1 ∧ TL s = []) ∨ (0 ≤ idx s ∧ idx s < (s.length : Int) ∧ TL s = s.drop (idx s).toNat) := by
  have := lead_le s
  unfold idx TL
  split
  · rename_i h; exact .inl ⟨rfl, by rw [h, List.drop_length]⟩
  · exact .inr ⟨by omega, by omega, by rw [Int.toNat_natCast]⟩
theorem right_rng (s : List UInt8) : (lidx s = -1 ∧ TR s = []) ∨ (0 ≤ lidx s ∧ lidx s < (s.length : Int) ∧ lidx s + ((Lib.decodeGo ⟨⟨s.drop (lidx s).toNat⟩⟩).2 : Int) = (tl s : Int) ∧ (tl s : Int) ≤ (s.length : Int) ∧ lidx s ≤ (tl s : Int) ∧ cut s 0 (tl s : Int) = TR s) := by
  have hl := tl_le s
  rcases Nat.eq_zero_or_pos (tl s) with e | e
  · exact .inl ⟨if_pos e, by unfold TR; rw [e]; rfl⟩
  · obtain ⟨h1, h2, h3⟩ := right_w s (by omega)
    have hc : cut s (lidx s) (s.length : Int) = s.drop (lidx s).toNat := by unfold cut; rw [Int.toNat_natCast, List.take_length]
    rw [hc] at h3
    exact .inr ⟨h1, h2, by omega, by omega, by omega, cut_take s (tl s)⟩
theorem lidx_neg (s : List UInt8) (h : tl s = 0) : lidx s = -1 := if_pos h
/-- given.example/pub-tinwright/pub/smithy/transport/http.isAmpersand -/
theorem isAmp (r : Int) : Fn0 Tryd.prog 64 [.int .i32 r] (.bool (decide (r = 38))) := by
  refine Fn0.enter (n := 5) Tryd.func64 rfl rfl fun w0 => ?_
  refine WC.sub (fr' := [(0, _)]) ?_ ⟨rfl, trivial⟩
  refine WC.seq ?_
  refine WC.region ?_
  refine WL.q (oq_assign rfl) rfl rfl rfl ?_
  refine WL.nil ?_
  refine WE.then_normal ?_
  refine WC.sub (fr' := [(0, _)]) ?_ ⟨rfl, trivial⟩
  refine WC.seq ?_
  refine WC.region ?_
  refine WL.q (oq_move rfl) rfl rfl rfl ?_
  refine WL.q (oq_eql rfl rfl) rfl rfl rfl ?_
  refine WL.q (oq_assign rfl) rfl rfl rfl ?_
  refine WL.nil ?_
  refine WE.then_normal ?_
  refine WC.sub (fr' := [(2, _)]) ?_ ⟨rfl, trivial⟩
  refine WC.ret ?_
  refine WE.end0 (.inl rfl) (res1 Tryd.results64 rfl) ?_
  -- end 0
  rfl

/-- strings.indexFunc -/
theorem indexFunc (s : List UInt8) (hs : s.length ≤ 4000000000) : Fn0 Tryd.prog 95 [S s, .func (.func 64) #[] #[], .bool false] (I (idx s)) := by
  refine Fn0.enter (n := 21) Tryd.func95 rfl rfl fun w0 => ?_
  refine WC.sub (fr' := [(0, _), (1, _), (2, _)]) ?_ ⟨rfl, rfl, rfl, trivial⟩
  refine WC.seq ?_
  refine WC.region ?_
  refine WL.q (oq_assign rfl) rfl rfl rfl ?_
  refine WL.nil ?_
  refine WE.then_normal ?_
  refine WC.sub (fr' := [(0, _), (1, _), (2, _)]) ?_ ⟨rfl, rfl, rfl, trivial⟩
  refine WC.seq ?_
  refine WC.seq ?_
  refine WC.region ?_
  refine WL.q (oq_move rfl) rfl rfl rfl ?_
  refine WL.range_s Tryd.underlying9 rfl rfl rfl fun it hit => ?_
  refine WL.nil ?_
  refine WE.then_normal ?_
  refine WC.sub (fr' := [(1, _), (2, _), (10, _)]) ?_ ⟨rfl, rfl, rfl, trivial⟩
  refine WC.block ?_
  refine WC.loop (ι := Nat) (fun (i : Nat) => [(1, .func (.func 64) #[] #[]), (2, .bool false), (10, Pt it 0)]) (fun (i : Nat) => [[(it, .stringIter ⟨⟨s⟩⟩ i)]]) (fun (i : Nat) => i ≤ s.length ∧ i + lead (s.drop i) = lead s) (fun (i : Nat) => s.length - i) (0) ?_ ⟨rfl, rfl, rfl, trivial⟩ (List.Perm.refl _) ?_
  · try dsimp only
    exact ⟨by omega, by simp⟩
  · rintro i hp
    try dsimp only at hp
    obtain ⟨hi, hl⟩ := hp
    show WC _ _ _ _ _ _ ([(1, .func (.func 64) #[] #[]), (2, .bool false), (10, Pt it 0)]) ([[(it, .stringIter ⟨⟨s⟩⟩ i)]])
    refine WC.seq ?_
    refine WC.region ?_
    refine WL.next_s rfl rfl rfl (fun n2 => ?_) (fun n2 => ?_)
    ·
      refine WL.q (oq_extract rfl rfl) rfl rfl rfl ?_
      refine WL.nil ?_
      refine WE.then_normal ?_
      refine WC.sub (fr' := [(1, _), (2, _), (10, _), (11, _), (12, _)]) ?_ ⟨rfl, rfl, rfl, rfl, rfl, trivial⟩
      refine WC.seq ?_
      refine WC.cond_t rfl ?_
      refine WC.skip ?_
      refine WE.then_normal ?_
      refine WC.sub (fr' := [(1, _), (2, _), (10, _), (11, _)]) ?_ ⟨rfl, rfl, rfl, rfl, trivial⟩
      refine WC.block ?_
      refine WC.seq ?_
      refine WC.region ?_
      refine WL.q (oq_extract rfl rfl) rfl rfl rfl ?_
      refine WL.q (oq_extract rfl rfl) rfl rfl rfl ?_
      refine WL.q (oq_assign rfl) rfl rfl rfl ?_
      refine WL.q (oq_assign rfl) rfl rfl rfl ?_
      refine WL.nil ?_
      refine WE.then_normal ?_
      refine WC.sub (fr' := [(1, _), (2, _), (7, _), (8, _), (10, _)]) ?_ ⟨rfl, rfl, rfl, rfl, rfl, trivial⟩
      refine WC.seq ?_
      refine WC.region ?_
      refine WL.q (oq_move rfl) rfl rfl rfl ?_
      refine WL.q (oq_move rfl) rfl rfl rfl ?_
      refine WL.qc (oq_callv0 (isAmp _) call64 rfl rfl) rfl rfl rfl ?_
      refine WL.q (oq_move rfl) rfl rfl rfl ?_
      refine WL.q (oq_beql Tryd.underlying4 rfl rfl) rfl rfl rfl ?_
      refine WL.nil ?_
      refine WE.then_normal ?_
      refine WC.sub (fr' := [(1, _), (2, _), (7, _), (10, _), (19, _)]) ?_ ⟨rfl, rfl, rfl, rfl, rfl, trivial⟩
      refine WC.cond rfl (fun q4 => ?_) (fun q4 => ?_)
      ·
        try simp only [Bool.not_eq_eq_eq_not, Bool.not_true, Bool.not_false, decide_eq_true_eq, decide_eq_false_iff_not, Int.not_lt, Int.not_le, ne_eq, Decidable.not_not, ← List.length_eq_zero_iff] at q4
        refine WC.seq ?_
        refine WC.region ?_
        refine WL.q (oq_move rfl) rfl rfl rfl ?_
        refine WL.q (oq_assign rfl) rfl rfl rfl ?_
        refine WL.nil ?_
        refine WE.then_normal ?_
        refine WC.sub (fr' := [(6, _)]) ?_ ⟨rfl, trivial⟩
        refine WC.ret ?_
        refine WE.block_ret ?_
        refine WE.then_ret ?_
        refine WE.block_ret ?_
        refine WE.then_ret ?_
        refine WE.lose hit ?_
        refine WE.end0 (.inl rfl) (res1 Tryd.results95 rfl) ?_
        -- end 0
        have hls := lead_step s i n2
        have q5 : ¬ (decAt s i).1 = 38 := by simp at q4; omega
        rw [if_neg (fun h => q5 ((amp_at s i n2).1.2 h))] at hls
        exact congrArg (Value.int .i64) (by unfold idx; rw [if_neg (by omega)]; omega)
      ·
        try simp only [Bool.not_eq_eq_eq_not, Bool.not_true, Bool.not_false, decide_eq_true_eq, decide_eq_false_iff_not, Int.not_lt, Int.not_le, ne_eq, Decidable.not_not, ← List.length_eq_zero_iff] at q4
        refine WC.skip ?_
        refine WE.block_normal ?_
        have hw := decAt_width s i n2
        have ha := amp_at s i n2
        have hls := lead_step s i n2
        refine WE.again (i + (decAt s i).2) ?_ ?_ ⟨rfl, rfl, rfl, trivial⟩ (List.Perm.refl _)
        · try dsimp only   -- again 0
          have q5 : (decAt s i).1 = 38 := by simp at q4; omega
          rw [ha.2 q5]
          rw [if_pos (ha.1.1 q5)] at hls
          exact ⟨by omega, by omega⟩
        · (try dsimp only); omega
    ·
      refine WL.q (oq_extract rfl rfl) rfl rfl rfl ?_
      refine WL.nil ?_
      refine WE.then_normal ?_
      refine WC.sub (fr' := [(1, _), (2, _), (10, _), (11, _), (12, _)]) ?_ ⟨rfl, rfl, rfl, rfl, rfl, trivial⟩
      refine WC.seq ?_
      refine WC.cond_f rfl ?_
      refine WC.exit ?_
      refine WE.then_exit ?_
      refine WE.then_exit ?_
      refine WE.block_same ?_
      refine WE.then_normal ?_
      refine WC.sub (fr' := []) ?_ trivial
      refine WC.seq ?_
      refine WC.region ?_
      refine WL.q (oq_assign rfl) rfl rfl rfl ?_
      refine WL.nil ?_
      refine WE.then_normal ?_
      refine WC.sub (fr' := [(6, _)]) ?_ ⟨rfl, trivial⟩
      refine WC.ret ?_
      refine WE.lose hit ?_
      refine WE.end0 (.inl rfl) (res1 Tryd.results95 rfl) ?_
      -- end 1
      rw [List.drop_eq_nil_of_le n2] at hl
      have e0 : lead [] = 0 := rfl
      unfold idx; rw [if_pos (by omega)]

/-- strings.lastIndexFunc -/
theorem lastIndexFunc (T : Hp) (hT : Tabs T) (s : List UInt8) (hs : s.length ≤ 4000000000) : FnR Tryd.prog 93 [S s, .func (.func 64) #[] #[], .bool false] T (I (lidx s)) := by
  refine FnR.enter (n := 30) Tryd.func93 rfl rfl fun w0 => ?_
  refine WC.sub (fr' := [(0, _), (1, _), (2, _)]) ?_ ⟨rfl, rfl, rfl, trivial⟩
  refine WC.seq ?_
  refine WC.region ?_
  refine WL.q (oq_assign rfl) rfl rfl rfl ?_
  refine WL.nil ?_
  refine WE.then_normal ?_
  refine WC.sub (fr' := [(0, _), (1, _), (2, _)]) ?_ ⟨rfl, rfl, rfl, trivial⟩
  refine WC.seq ?_
  refine WC.seq ?_
  refine WC.region ?_
  refine WL.q (oq_move rfl) rfl rfl rfl ?_
  refine WL.q (oq_len_s Tryd.underlying9 rfl) rfl rfl rfl ?_
  refine WL.q (oq_assign rfl) rfl rfl rfl ?_
  refine WL.nil ?_
  refine WE.then_normal ?_
  refine WC.sub (fr' := [(0, _), (1, _), (2, _), (7, _)]) ?_ ⟨rfl, rfl, rfl, rfl, trivial⟩
  refine WC.block ?_
  refine WC.loop (ι := Nat) (fun (i : Nat) => [(0, S s), (1, .func (.func 64) #[] #[]), (2, .bool false), (7, I (i : Int))]) (fun (i : Nat) => [T]) (fun (i : Nat) => i ≤ s.length ∧ tl (s.take i) = tl s) (fun (i : Nat) => i) (s.length) ?_ ⟨rfl, rfl, rfl, rfl, trivial⟩ (List.Perm.refl _) ?_
  · try dsimp only
    exact ⟨by omega, by rw [List.take_length]⟩
  · rintro i hp
    try dsimp only at hp
    obtain ⟨hi, hl⟩ := hp
    show WC _ _ _ _ _ _ ([(0, S s), (1, .func (.func 64) #[] #[]), (2, .bool false), (7, I (i : Int))]) ([T])
    refine WC.seq ?_
    refine WC.seq ?_
    refine WC.region ?_
    refine WL.q (oq_move rfl) rfl rfl rfl ?_
    refine WL.q (oq_gtr rfl rfl) rfl rfl rfl ?_
    refine WL.nil ?_
    refine WE.then_normal ?_
    refine WC.sub (fr' := [(0, _), (1, _), (2, _), (7, _), (13, _)]) ?_ ⟨rfl, rfl, rfl, rfl, rfl, trivial⟩
    refine WC.cond rfl (fun q2 => ?_) (fun q2 => ?_)
    ·
      try simp only [Bool.not_eq_eq_eq_not, Bool.not_true, Bool.not_false, decide_eq_true_eq, decide_eq_false_iff_not, Int.not_lt, Int.not_le, ne_eq, Decidable.not_not, ← List.length_eq_zero_iff] at q2
      refine WC.skip ?_
      refine WE.then_normal ?_
      refine WC.sub (fr' := [(0, _), (1, _), (2, _), (7, _)]) ?_ ⟨rfl, rfl, rfl, rfl, trivial⟩
      refine WC.block ?_
      refine WC.seq ?_
      have hct := cut_take s i
      have hla := last_amp s i (by omega) hi
      have hts := tl_step s i (by omega) hi
      have hw : ((Lib.decodeLastL (cut s (0 : Int) (i : Int))).2 : Int) ≤ i ∧ (1 : Int) ≤ ((Lib.decodeLastL (cut s (0 : Int) (i : Int))).2 : Int) := by rw [hct]; omega
      refine WC.region ?_
      refine WL.q (oq_move rfl) rfl rfl rfl ?_
      refine WL.q (oq_move rfl) rfl rfl rfl ?_
      refine WL.q (oq_slice_s2 Tryd.underlying9 rfl rfl rfl (by (first | omega | (simp only [List.length_cons, List.length_nil, List.length_append, List.length_drop, List.length_take]; omega)))) rfl rfl rfl ?_
      refine WL.qc (oq_callRm (decLast hT _ (by rw [cut_take, List.length_take]; omega)) (.head _) call105 rfl) rfl rfl rfl ?_
      refine WL.q (oq_move rfl) rfl rfl rfl ?_
      refine WL.q (oq_extract rfl rfl) rfl rfl rfl ?_
      refine WL.q (oq_extract rfl rfl) rfl rfl rfl ?_
      refine WL.q (oq_assign rfl) rfl rfl rfl ?_
      refine WL.q (oq_assign rfl) rfl rfl rfl ?_
      refine WL.nil ?_
      refine WE.then_normal ?_
      refine WC.sub (fr' := [(0, _), (1, _), (2, _), (7, _), (8, _), (9, _)]) ?_ ⟨rfl, rfl, rfl, rfl, rfl, rfl, trivial⟩
      refine WC.seq ?_
      refine WC.region ?_
      refine WL.q (oq_move rfl) rfl rfl rfl ?_
      refine WL.q (oq_move rfl) rfl rfl rfl ?_
      refine WL.q (oq_sub rfl rfl (by rw [i64_lo, i64_hi]; (first | omega | (simp only [List.length_cons, List.length_nil, List.length_append, List.length_drop, List.length_take]; omega)))) rfl rfl rfl ?_
      refine WL.q (oq_assign rfl) rfl rfl rfl ?_
      refine WL.nil ?_
      refine WE.then_normal ?_
      refine WC.sub (fr' := [(0, _), (1, _), (2, _), (7, _), (8, _)]) ?_ ⟨rfl, rfl, rfl, rfl, rfl, trivial⟩
      refine WC.seq ?_
      refine WC.region ?_
      refine WL.q (oq_move rfl) rfl rfl rfl ?_
      refine WL.q (oq_move rfl) rfl rfl rfl ?_
      refine WL.qc (oq_callv0 (isAmp _) call64 rfl rfl) rfl rfl rfl ?_
      refine WL.q (oq_move rfl) rfl rfl rfl ?_
      refine WL.q (oq_beql Tryd.underlying4 rfl rfl) rfl rfl rfl ?_
      refine WL.nil ?_
      refine WE.then_normal ?_
      refine WC.sub (fr' := [(0, _), (1, _), (2, _), (7, _), (28, _)]) ?_ ⟨rfl, rfl, rfl, rfl, rfl, trivial⟩
      refine WC.cond rfl (fun q5 => ?_) (fun q5 => ?_)
      ·
        try simp only [Bool.not_eq_eq_eq_not, Bool.not_true, Bool.not_false, decide_eq_true_eq, decide_eq_false_iff_not, Int.not_lt, Int.not_le, ne_eq, Decidable.not_not, ← List.length_eq_zero_iff] at q5
        refine WC.seq ?_
        refine WC.region ?_
        refine WL.q (oq_move rfl) rfl rfl rfl ?_
        refine WL.q (oq_assign rfl) rfl rfl rfl ?_
        refine WL.nil ?_
        refine WE.then_normal ?_
        refine WC.sub (fr' := [(6, _)]) ?_ ⟨rfl, trivial⟩
        refine WC.ret ?_
        refine WE.block_ret ?_
        refine WE.then_ret ?_
        refine WE.block_ret ?_
        refine WE.then_ret ?_
        refine WE.endR (.inl rfl) (res1 Tryd.results93 rfl) ?_
        -- end 0
        have q6 : ¬ (Lib.decodeLastL (s.take i)).1 = 38 := by rw [hct] at q5; simp at q5; omega
        rw [if_neg (fun h => q6 (hla.1.2 h))] at hts
        have e : tl s = i := by omega
        unfold lidx; rw [if_neg (by omega), e, hct]
      ·
        try simp only [Bool.not_eq_eq_eq_not, Bool.not_true, Bool.not_false, decide_eq_true_eq, decide_eq_false_iff_not, Int.not_lt, Int.not_le, ne_eq, Decidable.not_not, ← List.length_eq_zero_iff] at q5
        refine WC.skip ?_
        refine WE.block_normal ?_
        refine WE.again (i - 1) ?_ ?_ ⟨rfl, rfl, rfl, (gtv rfl (by have q6 : (Lib.decodeLastL (s.take i)).1 = 38 := (by rw [hct] at q5; simp at q5; omega); rw [hct, hla.2.1 q6]; exact congrArg (Value.int .i64) (by omega))), trivial⟩ (List.Perm.refl _)
        · try dsimp only   -- again 0
          have q5 : (Lib.decodeLastL (s.take i)).1 = 38 := by rw [hct] at q5; simp at q5; omega
          rw [if_pos (hla.1.1 q5)] at hts
          exact ⟨by omega, by omega⟩
        · (try dsimp only); omega
    ·
      try simp only [Bool.not_eq_eq_eq_not, Bool.not_true, Bool.not_false, decide_eq_true_eq, decide_eq_false_iff_not, Int.not_lt, Int.not_le, ne_eq, Decidable.not_not, ← List.length_eq_zero_iff] at q2
      refine WC.exit ?_
      refine WE.then_exit ?_
      refine WE.then_exit ?_
      refine WE.block_same ?_
      refine WE.then_normal ?_
      refine WC.sub (fr' := []) ?_ trivial
      refine WC.seq ?_
      refine WC.region ?_
      refine WL.q (oq_assign rfl) rfl rfl rfl ?_
      refine WL.nil ?_
      refine WE.then_normal ?_
      refine WC.sub (fr' := [(6, _)]) ?_ ⟨rfl, trivial⟩
      refine WC.ret ?_
      refine WE.endR (.inl rfl) (res1 Tryd.results93 rfl) ?_
      -- end 1
      have e : i = 0 := by omega
      subst e
      have e2 : tl (s.take 0) = 0 := by simp [tl]
      rw [lidx_neg s (by omega)]

/-- strings.TrimLeftFunc -/
theorem trimLeft (s : List UInt8) (hs : s.length ≤ 4000000000) : Fn0 Tryd.prog 80 [S s, .func (.func 64) #[] #[]] (S (TL s)) := by
  have hix := idx_rng s
  refine Fn0.enter (n := 14) Tryd.func80 rfl rfl fun w0 => ?_
  refine WC.sub (fr' := [(0, _), (1, _)]) ?_ ⟨rfl, rfl, trivial⟩
  refine WC.seq ?_
  refine WC.region ?_
  refine WL.q (oq_assign rfl) rfl rfl rfl ?_
  refine WL.nil ?_
  refine WE.then_normal ?_
  refine WC.sub (fr' := [(0, _), (1, _)]) ?_ ⟨rfl, rfl, trivial⟩
  refine WC.seq ?_
  refine WC.region ?_
  refine WL.q (oq_move rfl) rfl rfl rfl ?_
  refine WL.q (oq_move rfl) rfl rfl rfl ?_
  refine WL.qc (oq_call (indexFunc s hs) call95 rfl) rfl rfl rfl ?_
  refine WL.q (oq_assign rfl) rfl rfl rfl ?_
  refine WL.nil ?_
  refine WE.then_normal ?_
  refine WC.sub (fr' := [(0, _), (5, _)]) ?_ ⟨rfl, rfl, trivial⟩
  refine WC.seq ?_
  refine WC.seq ?_
  refine WC.region ?_
  refine WL.q (oq_move rfl) rfl rfl rfl ?_
  refine WL.q (oq_eql rfl rfl) rfl rfl rfl ?_
  refine WL.nil ?_
  refine WE.then_normal ?_
  refine WC.sub (fr' := [(0, _), (5, _), (10, _)]) ?_ ⟨rfl, rfl, rfl, trivial⟩
  refine WC.cond rfl (fun q2 => ?_) (fun q2 => ?_)
  ·
    try simp only [Bool.not_eq_eq_eq_not, Bool.not_true, Bool.not_false, decide_eq_true_eq, decide_eq_false_iff_not, Int.not_lt, Int.not_le, ne_eq, Decidable.not_not, ← List.length_eq_zero_iff] at q2
    refine WC.seq ?_
    refine WC.region ?_
    refine WL.q (oq_assign rfl) rfl rfl rfl ?_
    refine WL.nil ?_
    refine WE.then_normal ?_
    refine WC.sub (fr' := [(4, _)]) ?_ ⟨rfl, trivial⟩
    refine WC.ret ?_
    refine WE.then_ret ?_
    refine WE.end0 (.inl rfl) (res1 Tryd.results80 rfl) ?_
    -- end 0
    rcases hix with ⟨_, h⟩ | ⟨h, _⟩
    · rw [h]
    · omega
  ·
    try simp only [Bool.not_eq_eq_eq_not, Bool.not_true, Bool.not_false, decide_eq_true_eq, decide_eq_false_iff_not, Int.not_lt, Int.not_le, ne_eq, Decidable.not_not, ← List.length_eq_zero_iff] at q2
    refine WC.skip ?_
    refine WE.then_normal ?_
    refine WC.sub (fr' := [(0, _), (5, _)]) ?_ ⟨rfl, rfl, trivial⟩
    refine WC.seq ?_
    refine WC.region ?_
    refine WL.q (oq_move rfl) rfl rfl rfl ?_
    refine WL.q (oq_move rfl) rfl rfl rfl ?_
    refine WL.q (oq_slice_s1 Tryd.underlying9 rfl rfl (by (first | omega | (simp only [List.length_cons, List.length_nil, List.length_append, List.length_drop, List.length_take]; omega)))) rfl rfl rfl ?_
    refine WL.q (oq_assign rfl) rfl rfl rfl ?_
    refine WL.nil ?_
    refine WE.then_normal ?_
    refine WC.sub (fr' := [(4, _)]) ?_ ⟨rfl, trivial⟩
    refine WC.ret ?_
    refine WE.end0 (.inl rfl) (res1 Tryd.results80 rfl) ?_
    -- end 1
    rcases hix with ⟨h, _⟩ | ⟨_, _, h⟩
    · omega
    · rw [h]

/-- strings.TrimRightFunc -/
theorem trimRight (T : Hp) (hT : Tabs T) (s : List UInt8) (hs : s.length ≤ 4000000000) : FnR Tryd.prog 79 [S s, .func (.func 64) #[] #[]] T (S (TR s)) := by
  have hrr := right_rng s
  refine FnR.enter (n := 28) Tryd.func79 rfl rfl fun w0 => ?_
  refine WC.sub (fr' := [(0, _), (1, _)]) ?_ ⟨rfl, rfl, trivial⟩
  refine WC.seq ?_
  refine WC.region ?_
  refine WL.q (oq_assign rfl) rfl rfl rfl ?_
  refine WL.nil ?_
  refine WE.then_normal ?_
  refine WC.sub (fr' := [(0, _), (1, _)]) ?_ ⟨rfl, rfl, trivial⟩
  refine WC.seq ?_
  refine WC.region ?_
  refine WL.q (oq_move rfl) rfl rfl rfl ?_
  refine WL.q (oq_move rfl) rfl rfl rfl ?_
  refine WL.qc (oq_callRm (lastIndexFunc T hT s hs) (.head _) call93 rfl) rfl rfl rfl ?_
  refine WL.q (oq_assign rfl) rfl rfl rfl ?_
  refine WL.nil ?_
  refine WE.then_normal ?_
  refine WC.sub (fr' := [(0, _), (5, _)]) ?_ ⟨rfl, rfl, trivial⟩
  refine WC.seq ?_
  refine WC.seq ?_
  refine WC.region ?_
  refine WL.q (oq_move rfl) rfl rfl rfl ?_
  refine WL.q (oq_geq rfl rfl) rfl rfl rfl ?_
  refine WL.nil ?_
  refine WE.then_normal ?_
  refine WC.sub (fr' := [(0, _), (5, _), (12, _)]) ?_ ⟨rfl, rfl, rfl, trivial⟩
  refine WC.cond rfl (fun q2 => ?_) (fun q2 => ?_)
  ·
    try simp only [Bool.not_eq_eq_eq_not, Bool.not_true, Bool.not_false, decide_eq_true_eq, decide_eq_false_iff_not, Int.not_lt, Int.not_le, ne_eq, Decidable.not_not, ← List.length_eq_zero_iff] at q2
    refine WC.seq ?_
    refine WC.region ?_
    refine WL.q (oq_move rfl) rfl rfl rfl ?_
    refine WL.q (oq_move rfl) rfl rfl rfl ?_
    refine WL.q (oq_slice_s1 Tryd.underlying9 rfl rfl (by (first | omega | (simp only [List.length_cons, List.length_nil, List.length_append, List.length_drop, List.length_take]; omega)))) rfl rfl rfl ?_
    refine WL.qc (oq_callRm (decFirst hT _) (.head _) call94 rfl) rfl rfl rfl ?_
    refine WL.q (oq_move rfl) rfl rfl rfl ?_
    refine WL.q (oq_extract rfl rfl) rfl rfl rfl ?_
    refine WL.q (oq_extract rfl rfl) rfl rfl rfl ?_
    refine WL.q (oq_assign rfl) rfl rfl rfl ?_
    refine WL.q (oq_assign rfl) rfl rfl rfl ?_
    refine WL.nil ?_
    refine WE.then_normal ?_
    refine WC.sub (fr' := [(0, _), (5, _), (7, _)]) ?_ ⟨rfl, rfl, rfl, trivial⟩
    refine WC.region ?_
    refine WL.q (oq_move rfl) rfl rfl rfl ?_
    refine WL.q (oq_move rfl) rfl rfl rfl ?_
    refine WL.q (oq_add rfl rfl (by rw [i64_lo, i64_hi]; (first | omega | (simp only [List.length_cons, List.length_nil, List.length_append, List.length_drop, List.length_take]; omega)))) rfl rfl rfl ?_
    refine WL.q (oq_assign rfl) rfl rfl rfl ?_
    refine WL.nil ?_
    refine WE.then_normal ?_
    refine WC.sub (fr' := [(0, _), (5, _)]) ?_ ⟨rfl, rfl, trivial⟩
    refine WC.seq ?_
    refine WC.region ?_
    refine WL.q (oq_move rfl) rfl rfl rfl ?_
    refine WL.q (oq_move rfl) rfl rfl rfl ?_
    refine WL.q (oq_slice_s2 Tryd.underlying9 rfl rfl rfl (by (first | omega | (simp only [List.length_cons, List.length_nil, List.length_append, List.length_drop, List.length_take]; omega)))) rfl rfl rfl ?_
    refine WL.q (oq_assign rfl) rfl rfl rfl ?_
    refine WL.nil ?_
    refine WE.then_normal ?_
    refine WC.sub (fr' := [(4, _)]) ?_ ⟨rfl, trivial⟩
    refine WC.ret ?_
    refine WE.endR (.inl rfl) (res1 Tryd.results79 rfl) ?_
    -- end 0
    rcases hrr with ⟨h, _⟩ | ⟨_, _, h, _, _, h2⟩
    · omega
    · rw [h, h2]
  ·
    try simp only [Bool.not_eq_eq_eq_not, Bool.not_true, Bool.not_false, decide_eq_true_eq, decide_eq_false_iff_not, Int.not_lt, Int.not_le, ne_eq, Decidable.not_not, ← List.length_eq_zero_iff] at q2
    refine WC.region ?_
    refine WL.q (oq_move rfl) rfl rfl rfl ?_
    refine WL.q (oq_add rfl rfl (by rw [i64_lo, i64_hi]; (first | omega | (simp only [List.length_cons, List.length_nil, List.length_append, List.length_drop, List.length_take]; omega)))) rfl rfl rfl ?_
    refine WL.q (oq_assign rfl) rfl rfl rfl ?_
    refine WL.nil ?_
    refine WE.then_normal ?_
    refine WC.sub (fr' := [(0, _), (5, _)]) ?_ ⟨rfl, rfl, trivial⟩
    refine WC.seq ?_
    refine WC.region ?_
    refine WL.q (oq_move rfl) rfl rfl rfl ?_
    refine WL.q (oq_move rfl) rfl rfl rfl ?_
    refine WL.q (oq_slice_s2 Tryd.underlying9 rfl rfl rfl (by (first | omega | (simp only [List.length_cons, List.length_nil, List.length_append, List.length_drop, List.length_take]; omega)))) rfl rfl rfl ?_
    refine WL.q (oq_assign rfl) rfl rfl rfl ?_
    refine WL.nil ?_
    refine WE.then_normal ?_
    refine WC.sub (fr' := [(4, _)]) ?_ ⟨rfl, trivial⟩
    refine WC.ret ?_
    refine WE.endR (.inl rfl) (res1 Tryd.results79 rfl) ?_
    -- end 1
    rcases hrr with ⟨h, h2⟩ | ⟨h, _⟩
    · rw [h, h2]; rfl
    · omega

/-- strings.TrimFunc -/
theorem trimFunc (T : Hp) (hT : Tabs T) (s : List UInt8) (hs : s.length ≤ 4000000000) : FnR Tryd.prog 63 [S s, .func (.func 64) #[] #[]] T (S (trimA s)) := by
  refine FnR.enter (n := 10) Tryd.func63 rfl rfl fun w0 => ?_
  refine WC.sub (fr' := [(0, _), (1, _)]) ?_ ⟨rfl, rfl, trivial⟩
  refine WC.seq ?_
  refine WC.region ?_
  refine WL.q (oq_assign rfl) rfl rfl rfl ?_
  refine WL.nil ?_
  refine WE.then_normal ?_
  refine WC.sub (fr' := [(0, _), (1, _)]) ?_ ⟨rfl, rfl, trivial⟩
  refine WC.seq ?_
  refine WC.region ?_
  refine WL.q (oq_move rfl) rfl rfl rfl ?_
  refine WL.q (oq_move rfl) rfl rfl rfl ?_
  refine WL.qc (oq_call (trimLeft s hs) call80 rfl) rfl rfl rfl ?_
  refine WL.q (oq_move rfl) rfl rfl rfl ?_
  refine WL.qc (oq_callRm (trimRight T hT _ (by unfold TL; rw [List.length_drop]; omega)) (.head _) call79 rfl) rfl rfl rfl ?_
  refine WL.q (oq_assign rfl) rfl rfl rfl ?_
  refine WL.nil ?_
  refine WE.then_normal ?_
  refine WC.sub (fr' := [(4, _)]) ?_ ⟨rfl, trivial⟩
  refine WC.ret ?_
  refine WE.endR (.inl rfl) (res1 Tryd.results63 rfl) ?_
  -- end 0
  rfl

end K7
end Go.Proofs.YtcgpajknehhdgaaDoor
