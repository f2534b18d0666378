/- Writers of many writers, buffers as groups. -/
import Derived.Test.YtodlhaghdplclaaDoorEK
namespace Go.Proofs.YtodlhaghdplclaaDoor
open Go Go.RowKit V EA EB EC ED EE EF EG EH EI EJ EK
set_option linter.unusedSimpArgs false
set_option linter.unusedVariables false
namespace EL
theorem fw_perm {P : Program} {f : FuncId} {args : List Value} {base : Nat} {Hs Ks : List Hp} {F : Hp} {R R' : Value → List Hp → Prop} (h : FnW P f args base Hs R) (p : Ks.flatten.Perm (Hs.flatten ++ F)) (hr : ∀ v Hs', R v Hs' → ∃ Ks', R' v Ks' ∧ (Hs'.flatten ++ F).Perm Ks'.flatten) : FnW P f args base Ks R' := by
  intro w0 R0 w hb hw
  have e1 : ∀ (X : List Hp) (Y : Hp), (X ++ [Y]).flatten = X.flatten ++ Y := fun X Y => by simp
  have p1 : (Ks ++ [R0]).flatten.Perm (Hs ++ [F ++ R0]).flatten := by
    rw [e1, e1, ← List.append_assoc]; exact p.append_right _
  refine (h w0 (F ++ R0) w hb (hw.perm p1)).mono ?_
  rintro e w' ⟨v, Hs', he, hR, hst⟩
  obtain ⟨Ks', hR', p2⟩ := hr v Hs' hR
  refine ⟨v, Ks', he, hR', hst.perm ?_⟩
  rw [e1, e1, ← List.append_assoc]; exact p2.append_right _
theorem mid1 (W G F C : Hp) : ((W ++ G ++ F) ++ C).Perm ((G ++ C) ++ (W ++ F)) := by
  have h1 : (W ++ G ++ F ++ C).Perm (G ++ W ++ F ++ C) := ((List.perm_append_comm.append_right F).append_right C)
  have h2 : (G ++ W ++ F ++ C).Perm (G ++ C ++ (W ++ F)) := by
    rw [List.append_assoc G W F, List.append_assoc G (W ++ F) C, List.append_assoc G C]
    exact List.Perm.append_left _ List.perm_append_comm
  exact h1.trans h2
abbrev Hash (hb : Nat) (c : BitVec 32) : Hp := [(hb, .cells #[U32 c] 66 (0, 0))]
/-- a buffer between other blocks is a writer -/
theorem midWr (base bb : Nat) (W F : Hp) : Wr base 45 (Pt bb 0) 54 (fun acc X => ∃ Gb, BufG base bb acc Gb ∧ X = (W ++ Gb) ++ F) := by
  refine ⟨invBW, nokBW _, ?_⟩
  rintro acc G s C data ⟨Gb, hG, rfl⟩ hr hl h0
  refine fw_perm (F := W ++ F) ((bufWr base bb).run acc Gb s C data hG hr hl h0) ?_ ?_
  · simp only [List.flatten_cons, List.flatten_nil, List.append_nil]
    exact mid1 W Gb F C
  · rintro v Hs ⟨G', rfl, rfl, hG'⟩
    refine ⟨_, ⟨_, rfl, rfl, G', hG', rfl⟩, ?_⟩
    simp only [List.flatten_cons, List.flatten_nil, List.append_nil]
    exact (mid1 W G' F C).symm
/-! ### A writer of two: a buffer and a sum -/
def MwG (base mb : Nat) (u : Value) (Ws : Hp) (bb hb : Nat) (acc : List UInt8) (X : Hp) : Prop := ∃ Gb, BufG base bb acc Gb ∧ X = (([(mb, .cells #[u] 93 (0, 0))] ++ Ws) ++ Gb) ++ Hash hb (crc acc)
def St2 (base bb hb : Nat) (acc data : List UInt8) (i : Nat) (X : Hp) : Prop := ∃ Gb, BufG base bb (if i = 0 then acc else acc ++ data) Gb ∧ X = Gb ++ Hash hb (crc (if i ≤ 1 then acc else acc ++ data))
theorem st_step (base bb hb : Nat) (acc data : List UInt8) (s : Value) (C : Hp) (hr : RdS 1 s C data.length (bytesV data)) (hl : acc.length + data.length ≤ 400000) (h0 : 0 < acc.length + data.length) :
    MwStep base [.iface 45 (Pt bb 0), .iface 64 (Pt hb 0)] s C data.length (St2 base bb hb acc data) := by
  intro i hi
  match i, hi with
  | 0, _ =>
    refine ⟨_, _, _, rfl, invBW, ?_⟩
    rintro G ⟨Gb, hG, rfl⟩
    rw [if_pos rfl] at hG
    refine fw_perm (F := Hash hb (crc acc)) ((bufWr base bb).run acc Gb s C data hG hr hl h0) ?_ ?_
    · simpa using mid1 [] Gb (Hash hb (crc acc)) C
    · rintro v Hs ⟨G', rfl, rfl, hG'⟩
      exact ⟨_, ⟨_, rfl, rfl, G', hG', rfl⟩, by simpa using (mid1 [] G' (Hash hb (crc acc)) C).symm⟩
  | 1, _ =>
    refine ⟨_, _, _, rfl, invCW, ?_⟩
    rintro G ⟨Gb, hG, rfl⟩
    rw [if_neg (by decide)] at hG
    have hh : crc (if (1 : Nat) ≤ 1 then acc else acc ++ data) = crc acc := rfl
    rw [hh]
    refine fw_perm (F := Gb) (crcWrite base hb acc s C data hr (by omega)) ?_ ?_
    · simpa using mid1 Gb (Hash hb (crc acc)) [] C
    · rintro v Hs ⟨rfl, rfl⟩
      exact ⟨_, ⟨_, rfl, rfl, Gb, hG, rfl⟩, by simpa using (mid1 Gb (Hash hb (crc (acc ++ data))) [] C).symm⟩
theorem mwWr (base mb : Nat) (u : Value) (Ws : Hp) (bb hb : Nat) (hw : RdS 1 u Ws 2 [.iface 45 (Pt bb 0), .iface 64 (Pt hb 0)]) : Wr base 90 (Pt mb 0) 65 (MwG base mb u Ws bb hb) := by
  refine ⟨invMW, nokMW _, ?_⟩
  rintro acc G s C data ⟨Gb, hG, rfl⟩ hr hl h0
  have h := mwWrite base mb u Ws [.iface 45 (Pt bb 0), .iface 64 (Pt hb 0)] hw (by simp) s C data hr (by omega) (St2 base bb hb acc data) (st_step base bb hb acc data s C hr hl h0) (Gb ++ Hash hb (crc acc)) ⟨Gb, hG, rfl⟩
  refine fw_perm (F := []) h ?_ ?_
  · simp
  · rintro v Hs ⟨G2, rfl, rfl, G', hG', rfl⟩
    exact ⟨_, ⟨_, rfl, rfl, G', hG', rfl⟩, by simp⟩
theorem mwSum (base mb : Nat) (u : Value) (Ws : Hp) (bb hb : Nat) (acc : List UInt8) (G : Hp) (h : MwG base mb u Ws bb hb acc G) : FnR Tryd.prog 27 [Pt hb 0] G (U32 (crc acc)) := by
  obtain ⟨Gb, _, rfl⟩ := h
  exact (sum32 hb (crc acc)).wide (List.perm_append_comm)
theorem mw_mid {base mb : Nat} {u : Value} {Ws : Hp} {bb hb : Nat} {acc : List UInt8} {G : Hp} (h : MwG base mb u Ws bb hb acc G) : ∃ Gb, BufG base bb acc Gb ∧ G = (([(mb, .cells #[u] 93 (0, 0))] ++ Ws) ++ Gb) ++ Hash hb (crc acc) := h
/-! ### Buffers as groups -/
theorem bufReset (base bb : Nat) (acc : List UInt8) (G : Hp) (h : BufG base bb acc G) : FnW Tryd.prog 22 [Pt bb 0] base [G] (fun w Hs => ∃ G', w = .tuple #[] ∧ Hs = [G'] ∧ BufG base bb [] G') := by
  obtain ⟨v, lr, A, rfl, hb⟩ := h
  rcases hb with ⟨rfl, rfl, rfl⟩ | ⟨B, cap, L, rfl, rfl, hB, hL, hc, hc0, hm, ht⟩
  · refine fw_perm (F := []) (reset0 base bb lr 0) (by simp) ?_
    rintro v Hs ⟨rfl, rfl⟩
    exact ⟨_, ⟨_, rfl, rfl, _, 0, [], rfl, .inl ⟨rfl, rfl, rfl⟩⟩, by simp⟩
  · refine fw_perm (F := Bf B 5 L) (reset1 base bb lr 0 B acc.length cap hc hc0) (by simp) ?_
    rintro v Hs ⟨rfl, rfl⟩
    exact ⟨_, ⟨_, rfl, rfl, _, 0, _, rfl, .inr ⟨B, cap, L, rfl, rfl, hB, hL, Nat.zero_le _, hc0, hm, rfl⟩⟩, by simp⟩
theorem bufLenG (base bb : Nat) (acc : List UInt8) (G : Hp) (h : BufG base bb acc G) (hl : acc.length ≤ 1000000) : FnR Tryd.prog 24 [Pt bb 0] G (I (acc.length : Int)) := by
  obtain ⟨v, lr, A, rfl, hb⟩ := h
  rcases hb with ⟨rfl, rfl, rfl⟩ | ⟨B, cap, L, rfl, rfl, hB, hL, hc, hc0, hm, ht⟩
  · exact (bufLen bb 0 0 none lr (by omega)).wide (List.Perm.refl _)
  · exact (bufLen bb acc.length cap (some ⟨B, 0, none⟩) lr (by omega)).wide (List.Perm.refl _)
theorem bytesG (base bb : Nat) (acc : List UInt8) (G : Hp) (h : BufG base bb acc G) : ∃ v, FnR Tryd.prog 16 [Pt bb 0] G v ∧ RdS 1 v G acc.length (bytesV acc) := by
  obtain ⟨v, lr, A, rfl, hb⟩ := h
  rcases hb with ⟨rfl, rfl, rfl⟩ | ⟨B, cap, L, rfl, rfl, hB, hL, hc, hc0, hm, ht⟩
  · exact ⟨_, (bufBytes0 bb lr).wide (List.Perm.refl _), rfl, .inl ⟨rfl, _, _, rfl⟩⟩
  · refine ⟨_, (bufBytes bb B acc.length cap lr hc hc0).wide (List.Perm.refl _), ?_⟩
    have h1 : RdS 1 (Sl B 0 acc.length cap) (Bf B 5 L) acc.length (bytesV acc) := by have := Sl.rd (b := B) (off := 0) (n := acc.length) (c := cap) (e := 5) (l := L) (by omega) hc; rw [List.drop_zero, ht] at this; exact this
    exact h1.weaken fun x hx => List.mem_append_right _ hx
theorem copyG (base : Nat) (k : TypeId) (r : Value) (f : FuncId) (Wt : List UInt8 → Hp → Prop) (hW : Wr base k r f Wt) (acc0 : List UInt8) (G : Hp) (hG : Wt acc0 G) (bb : Nat) (acc : List UInt8) (B : Hp) (hB : BufG base bb acc B) (ha : 0 < acc.length) (hal : acc0.length + acc.length ≤ 400000) :
    FnW Tryd.prog 26 [.iface k r, .iface 45 (Pt bb 0)] base [B, G] (fun w Hs => ∃ B' G', w = .tuple #[I (acc.length : Int), .nilIface] ∧ Hs = [B', G'] ∧ BufG base bb [] B' ∧ Wt (acc0 ++ acc) G') := by
  obtain ⟨v, lr, A, rfl, hb⟩ := hB
  rcases hb with ⟨rfl, rfl, rfl⟩ | ⟨B, cap, L, rfl, rfl, hB, hL, hc, hc0, hm, ht⟩
  · cases ha
  · refine fw_perm (F := []) (copy_ base k r f Wt hW acc0 G hG bb B cap lr L acc hB hL hc hc0 hm ht ha hal) (by simp) ?_
    rintro v Hs ⟨G2, rfl, rfl, hG2⟩
    exact ⟨_, ⟨_, _, rfl, rfl, ⟨_, 0, _, rfl, .inr ⟨B, cap, L, rfl, rfl, hB, hL, Nat.zero_le _, hc0, hm, rfl⟩⟩, hG2⟩, by simp⟩
end EL
end Go.Proofs.YtodlhaghdplclaaDoor
