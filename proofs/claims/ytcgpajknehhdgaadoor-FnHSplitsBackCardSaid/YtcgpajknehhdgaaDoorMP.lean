/- Plain words on values with commas between them. -/
import Derived.Test.YtcgpajknehhdgaaDoorKX
namespace Go.Proofs.YtcgpajknehhdgaaDoor
open Go V H1 H2 KP KQ KX
set_option linter.unusedSimpArgs false
set_option linter.unusedVariables false
namespace MP
def esc (c : UInt8) : List UInt8 := if c = 34 ∨ c = 92 then [92, c] else [c]
def own (v : List UInt8) : List UInt8 := v.flatMap esc
theorem own_snoc1 (v : List UInt8) (c : UInt8) : own (v ++ [c]) = own v ++ esc c := by simp [own]
theorem own_len : ∀ v : List UInt8, (own v).length ≤ 2 * v.length
  | [] => by simp [own]
  | c :: v => by
    have h := own_len v
    have e : own (c :: v) = esc c ++ own v := rfl
    have h2 : (esc c).length ≤ 2 := by unfold esc; split <;> simp
    rw [e, List.length_append, List.length_cons]; omega
theorem hq_own : ∀ (v rest : List UInt8), (10 : UInt8) ∉ v → hq (own v ++ 34 :: rest) = (v, some rest, false)
  | [], rest, _ => hq_q rest
  | c :: v, rest, h => by
    simp only [List.mem_cons, not_or] at h
    have ih := hq_own v rest h.2
    have e : own (c :: v) = esc c ++ own v := rfl
    rw [e, List.append_assoc]
    unfold esc
    split
    · rename_i hc
      show hq (92 :: c :: (own v ++ 34 :: rest)) = _
      rw [hq_b, ih]
      have : decide (c ≠ 34 ∧ c ≠ 92) = false := decide_eq_false (fun hh => hc.elim hh.1 hh.2)
      rw [this]; rfl
    · rename_i hc
      show hq (c :: (own v ++ 34 :: rest)) = _
      rw [hq_c _ _ (fun e => hc (.inl e)) (fun e => hc (.inr e)), ih]
      have : decide (c = 10) = false := decide_eq_false (fun e => h.1 e.symm)
      rw [this]; rfl
/-- a value as it stands in a list -/
def EncOk (v e : List UInt8) : Prop := (v ≠ [] ∧ (10 : UInt8) ∉ v ∧ e = 34 :: (own v ++ [34])) ∨ ((44 : UInt8) ∉ v ∧ (34 : UInt8) ∉ v ∧ trim v = v ∧ e = v)
def J : List (List UInt8) → List UInt8
  | [] => []
  | [e] => e
  | e :: r => e ++ 44 :: 32 :: J r
theorem J_cons (e f : List UInt8) (r : List (List UInt8)) : J (e :: f :: r) = e ++ 44 :: 32 :: J (f :: r) := rfl
theorem J_snoc : ∀ (es : List (List UInt8)) (e : List UInt8), es ≠ [] → J (es ++ [e]) = J es ++ [44, 32] ++ e
  | [], _, h => absurd rfl h
  | [a], e, _ => by simp [J]
  | a :: b :: r, e, _ => by
    have ih := J_snoc (b :: r) e (by simp)
    rw [List.cons_append, List.cons_append, J_cons, ← List.cons_append, ih, J_cons]; simp
theorem J_len : ∀ es : List (List UInt8), es.length ≤ (J es).length + 1
  | [] => by simp [J]
  | [e] => by simp [J]
  | e :: f :: r => by
    have := J_len (f :: r)
    rw [J_cons]; simp at this ⊢; omega
theorem blk44' : blkB 44 = false := by decide
theorem trimR_keep (a b : List UInt8) (c : UInt8) (hc : blkB c = false) : trimR (a ++ c :: b) = a ++ c :: trimR b := by
  unfold trimR
  rw [List.reverse_append, List.reverse_cons, List.append_assoc]
  have key : ∀ (x y : List UInt8), (x ++ ([c] ++ y)).dropWhile blkB = x.dropWhile blkB ++ ([c] ++ y) := by
    intro x y
    induction x with
    | nil => rw [List.nil_append, List.singleton_append, List.dropWhile_cons_of_neg (by rw [hc]; simp)]; rfl
    | cons d x ih =>
      rw [List.cons_append]
      cases hd : blkB d with
      | true => rw [List.dropWhile_cons_of_pos hd, List.dropWhile_cons_of_pos hd, ih]
      | false => rw [List.dropWhile_cons_of_neg (by rw [hd]; simp), List.dropWhile_cons_of_neg (by rw [hd]; simp)]; rfl
  rw [key, List.reverse_append, List.reverse_append, List.reverse_reverse]
  simp
theorem trimL_head (c : UInt8) (b : List UInt8) (hc : blkB c = false) : trimL (c :: b) = c :: b := by
  unfold trimL; rw [List.dropWhile_cons_of_neg (by rw [hc]; simp)]
theorem trimL_sp (x : List UInt8) : trimL (trimR (32 :: x)) = trimL (trimR x) := by
  have h32 : blkB 32 = true := by decide
  have key : ∀ (y : List UInt8), (y ++ [32]).dropWhile blkB = if y.dropWhile blkB = [] then [] else y.dropWhile blkB ++ [32] := by
    intro y
    induction y with
    | nil => simp [h32]
    | cons d y ih =>
      rw [List.cons_append]
      cases hd : blkB d with
      | true => rw [List.dropWhile_cons_of_pos hd, List.dropWhile_cons_of_pos hd, ih]
      | false => rw [List.dropWhile_cons_of_neg (by rw [hd]; simp), List.dropWhile_cons_of_neg (by rw [hd]; simp)]; simp
  unfold trimR
  rw [List.reverse_cons, key]
  split
  · rename_i h; rw [h]
  · rw [List.reverse_append]
    show trimL (32 :: _) = _
    unfold trimL; rw [List.dropWhile_cons_of_pos h32]; rfl
theorem i44_plain : ∀ (v r : List UInt8), (44 : UInt8) ∉ v → i44 (v ++ 44 :: r) = v.length ∧ i44 v = v.length
  | [], r, _ => ⟨by simp [i44], rfl⟩
  | c :: v, r, h => by
    simp only [List.mem_cons, not_or] at h
    obtain ⟨h1, h2⟩ := i44_plain v r h.2
    have hc : ¬ c = 44 := fun e => h.1 e.symm
    exact ⟨by rw [List.cons_append, i44, if_neg hc, h1]; rfl, by rw [i44, if_neg hc, h2]; rfl⟩
theorem trim_fix {v : List UInt8} (h : trim v = v) : trimR v = v ∧ trimL v = v := by
  have h1 := trimL_len v
  have h2 : (trimR (trimL v)).length ≤ (trimL v).length := by
    unfold trimR; rw [List.length_reverse]
    have := (List.dropWhile_sublist (l := (trimL v).reverse) blkB).length_le
    rw [List.length_reverse] at this; exact this
  have h3 : (trimR (trimL v)).length = v.length := congrArg List.length h
  obtain ⟨k, hk⟩ := trimL_suffix v
  have h4 : trimL v = v := by
    rw [hk] at h1 h2 h3 ⊢
    rw [List.length_drop] at h2
    rcases Nat.eq_zero_or_pos k with e | e
    · rw [e]; rfl
    · rcases Nat.eq_zero_or_pos v.length with e2 | e2
      · rw [List.eq_nil_of_length_eq_zero e2]; simp
      · omega
  unfold trim at h
  rw [h4] at h
  exact ⟨h, h4⟩
theorem fix_head {c : UInt8} {v : List UInt8} (h : trimL (c :: v) = c :: v) : blkB c = false := by
  cases hc : blkB c with
  | false => rfl
  | true =>
    unfold trimL at h
    rw [List.dropWhile_cons_of_pos hc] at h
    have := (List.dropWhile_sublist (l := v) blkB).length_le
    rw [h] at this; simp at this; omega
/-- a list of values, written out, reads as these values -/
theorem hp_join : ∀ (ls es : List (List UInt8)) (f : Nat), ls ≠ [] → ls.length = es.length → (∀ k, k < ls.length → EncOk (ls.getD k []) (es.getD k [])) → ls.length ≤ f + 1 → hpF (f + 1) (trimR (J es)) = (some ls, true) ∧ trimL (J es) = J es
  | [], _, _, h, _, _, _ => absurd rfl h
  | v :: ls, [], _, _, h, _, _ => by simp at h
  | [v], [e], f, _, _, hok, _ => by
    have h0 : EncOk v e := hok 0 (by simp)
    show hpF (f + 1) (trimR e) = _ ∧ trimL e = e
    rcases h0 with ⟨h1, h2, rfl⟩ | ⟨h1, h2, h3, rfl⟩
    · have b34 : blkB 34 = false := by decide
      have e1 : trimR (34 :: (own v ++ [34])) = 34 :: (own v ++ [34]) := by
        have := trimR_keep (34 :: own v) [] 34 b34
        rw [show trimR [] = [] from rfl] at this
        simpa using this
      refine ⟨?_, trimL_head _ _ b34⟩
      rw [e1]
      have hh := hq_own v [] h2
      rw [hp_q2 (trimL_head _ _ b34) (by rw [hh]) (by rw [hh]; exact h1) (by rw [hh]) rfl, hh]
    · obtain ⟨hR, hL⟩ := trim_fix h3
      refine ⟨?_, hL⟩
      rw [hR]
      cases e with
      | nil => exact hp_e rfl
      | cons c t =>
        have hc : c ≠ 34 := fun e => h2 (by rw [e]; simp)
        rw [hp_u0 hL hc (i44_plain (c :: t) [] h1).2, h3]
  | v :: w :: ls, [e], _, _, h, _, _ => by simp at h
  | [v], e :: e2 :: es, _, _, h, _, _ => by simp at h
  | v :: w :: ls, e :: e2 :: es, 0, _, _, _, h => by simp at h
  | v :: w :: ls, e :: e2 :: es, f + 1, _, hlen, hok, hf => by
    have h0 : EncOk v e := hok 0 (by simp)
    obtain ⟨ih, _⟩ := hp_join (w :: ls) (e2 :: es) f (by simp) (by simpa using hlen) (fun k hk => hok (k + 1) (by simp at hk ⊢; omega)) (by simp at hf ⊢; omega)
    have hrec : hpF (f + 1) (trimR (32 :: J (e2 :: es))) = (some (w :: ls), true) := by rw [hp_blank (trimL_sp (J (e2 :: es))), ih]
    rw [J_cons]
    have et : trimR (e ++ 44 :: 32 :: J (e2 :: es)) = e ++ 44 :: trimR (32 :: J (e2 :: es)) := trimR_keep _ _ _ blk44'
    rw [et]
    rcases h0 with ⟨h1, h2, rfl⟩ | ⟨h1, h2, h3, rfl⟩
    · have b34 : blkB 34 = false := by decide
      refine ⟨?_, trimL_head _ _ b34⟩
      have e1 : (34 :: (own v ++ [34])) ++ 44 :: trimR (32 :: J (e2 :: es)) = 34 :: (own v ++ 34 :: 44 :: trimR (32 :: J (e2 :: es))) := by simp
      rw [e1]
      have hh := hq_own v (44 :: trimR (32 :: J (e2 :: es))) h2
      rw [hp_q3 (trimL_head _ _ b34) (by rw [hh]) (by rw [hh]; exact h1) (by rw [hh]) (trimL_head _ _ blk44'), hh, hrec]; rfl
    · obtain ⟨hR, hL⟩ := trim_fix h3
      obtain ⟨hi, _⟩ := i44_plain e (trimR (32 :: J (e2 :: es))) h1
      cases e with
      | nil =>
        refine ⟨?_, trimL_head _ _ blk44'⟩
        show hpF (f + 1 + 1) (44 :: trimR (32 :: J (e2 :: es))) = _
        rw [hp_u1 (trimL_head _ _ blk44') (by decide) (by simp [i44])]
        have e0 : i44 (44 :: trimR (32 :: J (e2 :: es))) = 0 := by simp [i44]
        rw [e0]
        show pre [trim []] (hpF (f + 1) (trimR (32 :: J (e2 :: es)))) = _
        rw [hrec]; rfl
      | cons c t =>
        have hc : c ≠ 34 := fun e => h2 (by rw [e]; simp)
        have hb := fix_head hL
        refine ⟨?_, trimL_head _ _ hb⟩
        rw [List.cons_append] at hi ⊢
        rw [hp_u1 (trimL_head _ _ hb) hc (by rw [hi]; simp)]
        rw [hi, ← List.cons_append, List.take_left' rfl, h3]
        have ed : List.drop ((c :: t).length + 1) ((c :: t) ++ 44 :: trimR (32 :: J (e2 :: es))) = trimR (32 :: J (e2 :: es)) := by
          rw [← List.drop_drop, List.drop_left' rfl]; rfl
        rw [ed, hrec]; rfl
theorem J_asc : ∀ es : List (List UInt8), (∀ e ∈ es, Asc e) → Asc (J es)
  | [], _ => fun i hi => by simp [J] at hi
  | [e], h => h e (by simp)
  | e :: f :: r, h => by
    have ih := J_asc (f :: r) (fun x hx => h x (by simp [hx]))
    rw [J_cons]
    refine asc_of fun c hc => ?_
    simp only [List.mem_append, List.mem_cons] at hc
    rcases hc with hc | rfl | rfl | hc
    · exact asc_mem (h e (by simp)) c hc
    · decide
    · decide
    · exact asc_mem ih c hc
theorem own_asc {v : List UInt8} (h : Asc v) : Asc (own v) := asc_of fun c hc => by
  unfold own at hc
  rw [List.mem_flatMap] at hc
  obtain ⟨d, hd, hc⟩ := hc
  unfold esc at hc
  split at hc
  · simp only [List.mem_cons, List.not_mem_nil, or_false] at hc
    rcases hc with rfl | rfl
    · decide
    · exact asc_mem h c hd
  · simp only [List.mem_singleton] at hc
    rw [hc]; exact asc_mem h d hd
theorem enc_asc {v e : List UInt8} (h : EncOk v e) (ha : Asc v) : Asc e := by
  rcases h with ⟨_, _, rfl⟩ | ⟨_, _, _, rfl⟩
  · refine asc_of fun c hc => ?_
    simp only [List.mem_cons, List.mem_append, List.not_mem_nil, or_false] at hc
    rcases hc with rfl | hc | rfl
    · decide
    · exact asc_mem (own_asc ha) c hc
    · decide
  · exact ha
theorem hpar_join {ls es : List (List UInt8)} (h1 : ls ≠ []) (h2 : ls.length = es.length) (h3 : ∀ k, k < ls.length → EncOk (ls.getD k []) (es.getD k [])) (h4 : ∀ k, k < ls.length → Asc (ls.getD k [])) : hpar (J es) = (some ls, true) := by
  have ha : Asc (J es) := J_asc es fun e he => by
    obtain ⟨k, hk, rfl⟩ := List.mem_iff_getElem.1 he
    have h5 := h3 k (by omega)
    rw [List.getD_eq_getElem?_getD (l := es), List.getElem?_eq_getElem hk] at h5
    exact enc_asc h5 (h4 k (by omega))
  have h6 := J_len es
  obtain ⟨h7, h8⟩ := hp_join ls es (J es).length h1 h2 h3 (by omega)
  unfold hpar
  rw [if_pos (asc8_of ha)]
  unfold trim
  rw [h8, h7]
end MP
end Go.Proofs.YtcgpajknehhdgaaDoor
