/- Words for a cache: what stands in its ring, its map and its elements. -/
import Derived.Test.YtjmlifpngnbomaaVM
import Derived.Test.YtjmlifpngnbomaaChecked
namespace Go.Proofs.Ytjmlifpngnbomaa
open Go Go.RowKit V
set_option linter.unusedSimpArgs false
set_option linter.unusedVariables false
/-- one that is kept: its node, its element, its key and its value -/
structure It where
  e : Nat
  s : Nat
  k : List UInt8
  v : List UInt8
abbrev KS (s : List UInt8) : Value := .iface 9 (S s)
theorem kOk : KeyOk Try.prog 20 KS := by
  have h : (Try.prog.info? 9).map (fun i => i.comparable) = some true := by kernel_rfl
  cases hi : Try.prog.info? 9 with
  | none => rw [hi] at h; cases h
  | some i =>
    rw [hi] at h
    exact KeyOk.iface Try.underlying20 Try.underlying9 hi (by simpa using h)
def EG (items : List It) : Hp := items.map fun it => (it.s, .cells #[KS it.k, KS it.v] 74 (0, 0))
theorem EG.out (A : List It) (it : It) (B : List It) : (EG (A ++ it :: B)).Perm ([(it.s, .cells #[KS it.k, KS it.v] 74 (0, 0))] ++ EG (A ++ B)) := by
  unfold EG
  rw [List.map_append, List.map_cons, List.map_append]
  exact List.perm_middle
abbrev LR (lb mb bl : Nat) (cap : Int) : Hp := [(lb, .cells #[Mp mb, I cap, Pt bl 0] 46 (0, 0))]
abbrev CG (lb mb bl : Nat) (cap : Int) (items : List It) (nx pv : Nat → Nat) (vl : Nat → Value) (ms : List (List UInt8 × Value × Nat)) (clk : Nat) : List Hp :=
  [LR lb mb bl cap, MG KS mb ms clk, LG 51 53 bl (items.map It.e) nx pv vl (items.length : Int), EG items]
def pr (ms : List (List UInt8 × Value × Nat)) : List (List UInt8 × Value) := ms.map fun e => (e.1, e.2.1)
def pi (items : List It) : List (List UInt8 × Value) := items.map fun it => (it.k, Pt it.e 0)
def kv (items : List It) : List (List UInt8 × List UInt8) := items.map fun it => (it.k, it.v)
theorem mget_of {k : List UInt8} {v : Value} : ∀ (ms : List (List UInt8 × Value × Nat)), ((pr ms).map Prod.fst).Nodup → (k, v) ∈ pr ms → mget k ms = some v
  | [], _, h => by cases h
  | e :: r, hn, h => by
    have hn' := List.nodup_cons.1 hn
    unfold mget
    rcases List.mem_cons.1 h with h | h
    · injection h with h1 h2
      rw [if_pos h1, h2]
    · have : k ≠ e.1 := fun h' => hn'.1 (by
        show e.1 ∈ (pr r).map Prod.fst
        rw [← h']; exact List.mem_map.2 ⟨_, h, rfl⟩)
      rw [if_neg this]
      exact mget_of r hn'.2 h
theorem mget_no {k : List UInt8} : ∀ (ms : List (List UInt8 × Value × Nat)), k ∉ (pr ms).map Prod.fst → mget k ms = none
  | [], _ => rfl
  | e :: r, h => by
    have h1 : k ≠ e.1 := fun h' => h (by rw [h']; exact List.mem_cons_self)
    unfold mget
    rw [if_neg h1]
    exact mget_no r fun h' => h (List.mem_cons_of_mem _ h')
theorem mdel_perm {k : List UInt8} {v : Value} : ∀ (ms : List (List UInt8 × Value × Nat)), mget k ms = some v → (pr ms).Perm ((k, v) :: pr (mdel k ms))
  | [], h => by cases h
  | e :: r, h => by
    unfold mget at h
    unfold mdel
    by_cases hk : k = e.1
    · rw [if_pos hk] at h ⊢
      injection h with h
      rw [hk, ← h]; exact List.Perm.refl _
    · rw [if_neg hk] at h ⊢
      exact ((mdel_perm r h).cons _).trans (List.Perm.swap _ _ _)
structure Cinv (base bl : Nat) (cap : Nat) (items : List It) (nx pv : Nat → Nat) (vl : Nat → Value) (ms : List (List UInt8 × Value × Nat)) : Prop where
  ring : Rg nx pv bl (items.map It.e)
  vls : ∀ it ∈ items, vl it.e = .iface 75 (Pt it.s 0)
  keys : ((pi items).map Prod.fst).Nodup
  mp : (pr ms).Perm (pi items)
  cp : items.length ≤ cap
  new : ∀ it ∈ items, base ≤ it.e ∧ base ≤ it.s
variable {base bl cap : Nat} {items A B : List It} {it : It} {nx pv nx2 pv2 : Nat → Nat} {vl : Nat → Value} {ms : List (List UInt8 × Value × Nat)}
theorem Cinv.mkeys (h : Cinv base bl cap items nx pv vl ms) : ((pr ms).map Prod.fst).Nodup := (h.mp.map Prod.fst).nodup_iff.2 h.keys
theorem Cinv.len (h : Cinv base bl cap items nx pv vl ms) : ms.length = items.length := by
  have := h.mp.length_eq; simpa [pr, pi] using this
theorem Cinv.hit (h : Cinv base bl cap (A ++ it :: B) nx pv vl ms) : mget it.k ms = some (Pt it.e 0) :=
  mget_of ms h.mkeys (h.mp.mem_iff.2 (List.mem_map.2 ⟨it, by simp, rfl⟩))
theorem Cinv.miss (h : Cinv base bl cap items nx pv vl ms) {k : List UInt8} (hk : k ∉ items.map It.k) : mget k ms = none :=
  mget_no ms fun h' => hk (by
    have := (h.mp.map Prod.fst).mem_iff.1 h'
    simpa [pi, List.map_map, Function.comp_def] using this)
theorem pi_mid (v : List UInt8) : (pi (A ++ it :: B)).Perm (pi ({ it with v := v } :: (A ++ B))) := by
  unfold pi
  rw [List.map_append, List.map_cons, List.map_cons, List.map_append]
  exact List.perm_middle
theorem Cinv.rg (h : Cinv base bl cap (A ++ it :: B) nx pv vl ms) : Rg nx pv bl (A.map It.e ++ it.e :: B.map It.e) := by
  have := h.ring; rwa [List.map_append, List.map_cons] at this
theorem Cinv.move (v : List UInt8) (h : Cinv base bl cap (A ++ it :: B) nx pv vl ms) (hr : Rg nx2 pv2 bl (it.e :: (A.map It.e ++ B.map It.e))) : Cinv base bl cap ({ it with v := v } :: (A ++ B)) nx2 pv2 vl ms where
  ring := by rw [List.map_cons, List.map_append]; exact hr
  vls := fun x hx => by
    rcases List.mem_cons.1 hx with rfl | hx
    · exact h.vls it (by simp)
    · rcases List.mem_append.1 hx with hx | hx
      · exact h.vls x (by simp [hx])
      · exact h.vls x (by simp [hx])
  keys := ((pi_mid v).map Prod.fst).nodup_iff.1 h.keys
  mp := h.mp.trans (pi_mid v)
  cp := by have := h.cp; simp at this ⊢; omega
  new := fun x hx => by
    rcases List.mem_cons.1 hx with rfl | hx
    · exact h.new it (by simp)
    · rcases List.mem_append.1 hx with hx | hx
      · exact h.new x (by simp [hx])
      · exact h.new x (by simp [hx])
theorem Cinv.drop (h : Cinv base bl cap (A ++ [it]) nx pv vl ms) (hr : Rg nx2 pv2 bl (A.map It.e ++ [])) : Cinv base bl cap A nx2 pv2 vl (mdel it.k ms) where
  ring := by rw [List.append_nil] at hr; exact hr
  vls := fun x hx => h.vls x (by simp [hx])
  keys := by have := h.keys; unfold pi at this ⊢; rw [List.map_append, List.map_append, List.nodup_append] at this; exact this.1
  mp := by
    have h1 := mdel_perm ms h.hit
    have h2 := h.mp
    have h3 : (pi (A ++ [it])).Perm ((it.k, Pt it.e 0) :: pi A) := by unfold pi; rw [List.map_append]; exact List.perm_append_singleton _ _
    exact (h1.symm.trans (h2.trans h3)).cons_inv
  cp := by have := h.cp; simp at this; omega
  new := fun x hx => h.new x (by simp [hx])
theorem Cinv.add (h : Cinv base bl cap items nx pv vl ms) {e s clk : Nat} {k v : List UInt8} (hk : k ∉ items.map It.k) (hc : items.length < cap) (hr : Rg nx2 pv2 bl (e :: items.map It.e)) (he : base ≤ e) (hs : base ≤ s) :
    Cinv base bl cap (⟨e, s, k, v⟩ :: items) nx2 pv2 (upd vl e (.iface 75 (Pt s 0))) (mput k (Pt e 0) clk ms) where
  ring := hr
  vls := fun x hx => by
    rcases List.mem_cons.1 hx with rfl | hx
    · exact upd_same _ _ _
    · have hn := (List.nodup_cons.1 (List.nodup_cons.1 hr.nd).2).1
      have : x.e ≠ e := fun h' => hn (by rw [← h']; exact List.mem_map.2 ⟨x, hx, rfl⟩)
      rw [upd_ne _ _ this]; exact h.vls x hx
  keys := List.nodup_cons.2 ⟨fun h' => hk (by simpa [pi, List.map_map, Function.comp_def] using h'), h.keys⟩
  mp := by
    have : mput k (Pt e 0) clk ms = ms ++ [(k, Pt e 0, clk)] := by unfold mput; rw [h.miss hk]
    rw [this]
    show (pr _).Perm ((k, Pt e 0) :: pi items)
    unfold pr
    rw [List.map_append]
    exact (List.perm_append_singleton _ _).trans (h.mp.cons _)
  cp := hc
  new := fun x hx => by
    rcases List.mem_cons.1 hx with rfl | hx
    · exact ⟨he, hs⟩
    · exact h.new x hx
theorem lg_mid (A B : List It) (it : It) : ((A ++ it :: B).map It.e).Perm ((it :: (A ++ B)).map It.e) := (List.perm_middle).map _
theorem split_or (k : List UInt8) : ∀ (items : List It), (∃ A it B, items = A ++ it :: B ∧ it.k = k) ∨ k ∉ items.map It.k
  | [] => .inr (by simp)
  | a :: r => by
    by_cases h : a.k = k
    · exact .inl ⟨[], a, r, rfl, h⟩
    · rcases split_or k r with ⟨A, it, B, rfl, h2⟩ | h2
      · exact .inl ⟨a :: A, it, B, rfl, h2⟩
      · exact .inr (by simp only [List.map_cons, List.mem_cons, not_or]; exact ⟨fun h' => h h'.symm, h2⟩)
/-! ### The cache as a list of keys with values, the newest first -/
def lfind (k : List UInt8) : List (List UInt8 × List UInt8) → Option (List UInt8)
  | [] => none
  | e :: r => if k = e.1 then some e.2 else lfind k r
def ldel (k : List UInt8) : List (List UInt8 × List UInt8) → List (List UInt8 × List UInt8)
  | [] => []
  | e :: r => if k = e.1 then r else e :: ldel k r
def getL (k : List UInt8) (L : List (List UInt8 × List UInt8)) : List (List UInt8 × List UInt8) := match lfind k L with
  | some v => (k, v) :: ldel k L
  | none => L
def getA (k : List UInt8) (L : List (List UInt8 × List UInt8)) : Value := match lfind k L with
  | some v => .tuple #[KS v, .bool true]
  | none => .tuple #[.nilIface, .bool false]
def putL (cap : Nat) (k v : List UInt8) (L : List (List UInt8 × List UInt8)) : List (List UInt8 × List UInt8) := match lfind k L with
  | some _ => (k, v) :: ldel k L
  | none => (k, v) :: (if L.length = cap then L.dropLast else L)
theorem lfind_no {k : List UInt8} : ∀ {items : List It}, k ∉ items.map It.k → lfind k (kv items) = none
  | [], _ => rfl
  | a :: r, h => by
    simp only [List.map_cons, List.mem_cons, not_or] at h
    show lfind k ((a.k, a.v) :: kv r) = none
    unfold lfind
    rw [if_neg h.1]; exact lfind_no h.2
theorem lfind_mid (h : ((pi (A ++ it :: B)).map Prod.fst).Nodup) : lfind it.k (kv (A ++ it :: B)) = some it.v ∧ ldel it.k (kv (A ++ it :: B)) = kv (A ++ B) := by
  induction A with
  | nil =>
    show lfind it.k ((it.k, it.v) :: kv B) = _ ∧ ldel it.k ((it.k, it.v) :: kv B) = _
    unfold lfind ldel
    rw [if_pos rfl, if_pos rfl]; exact ⟨rfl, rfl⟩
  | cons a A ih =>
    have h' := List.nodup_cons.1 h
    have hne : it.k ≠ a.k := fun e => h'.1 (by
      show a.k ∈ (pi (A ++ it :: B)).map Prod.fst
      rw [← e]; simp [pi])
    obtain ⟨h1, h2⟩ := ih h'.2
    show lfind it.k ((a.k, a.v) :: kv (A ++ it :: B)) = _ ∧ ldel it.k ((a.k, a.v) :: kv (A ++ it :: B)) = _
    unfold lfind ldel
    rw [if_neg hne, if_neg hne, h1, h2]; exact ⟨rfl, rfl⟩
end Go.Proofs.Ytjmlifpngnbomaa
