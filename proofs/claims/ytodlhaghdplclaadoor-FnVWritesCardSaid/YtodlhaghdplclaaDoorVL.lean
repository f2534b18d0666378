/- The engine, part 20: rings of nodes; maps. Over any program. -/
import Derived.Test.YtodlhaghdplclaaDoorVK
import Derived.LaidEqlPtr
namespace Go.Proofs.YtodlhaghdplclaaDoor.V
open Go Go.RowKit
set_option linter.unusedSimpArgs false
set_option linter.unusedVariables false
def upd {α : Type} (f : Nat → α) (b : Nat) (v : α) : Nat → α := fun x => if x = b then v else f x
theorem upd_same {α : Type} (f : Nat → α) (b : Nat) (v : α) : upd f b v b = v := if_pos rfl
theorem upd_ne {α : Type} (f : Nat → α) {b x : Nat} (v : α) (h : x ≠ b) : upd f b v x = f x := if_neg h

/-! ### Blocks by a function -/
theorem St.updM {w0 w w' : World} {f g : Nat → Obj} {bs : List Nat} {R : Hp} {b : Nat} (h : St w0 (bs.map (fun x => (x, f x)) ++ R) w) (hb : b ∈ bs) (hfg : ∀ x, x ≠ b → f x = g x) (hos : w'.os = w.os) (htape : w'.tape = w.tape) (hout : w'.output = w.output) (hsize : w'.heap.size = w.heap.size)
    (hnow : w'.heap[b]? = some (g b)) (hother : ∀ k, k ≠ b → w'.heap[k]? = w.heap[k]?) : St w0 (bs.map (fun x => (x, g x)) ++ R) w' := by
  have e1 : (bs.map (fun x => (x, g x))).map Prod.fst = (bs.map (fun x => (x, f x))).map Prod.fst := by simp
  have hnd := h.nodup
  rw [List.map_append, List.nodup_append] at hnd
  have hbm : b ∈ (bs.map (fun x => (x, f x))).map Prod.fst := by simpa using hb
  refine ⟨hos.trans h.os, htape.trans h.tape, hout.trans h.output, by rw [hsize]; exact h.size, fun k hk hno => ?_, fun x o hx => ?_, ?_⟩
  · have hkb : k ≠ b := fun e => hno (g b) (List.mem_append_left _ (by rw [e]; exact List.mem_map.2 ⟨b, hb, rfl⟩))
    rw [hother k hkb]
    refine h.old k hk fun o ho => ?_
    rcases List.mem_append.1 ho with e | e
    · obtain ⟨y, hy, e2⟩ := List.mem_map.1 e
      injection e2 with e3 e4
      subst e3
      exact hno (g y) (List.mem_append_left _ (List.mem_map.2 ⟨y, hy, rfl⟩))
    · exact hno o (List.mem_append_right _ e)
  · rcases List.mem_append.1 hx with e | e
    · obtain ⟨y, hy, e2⟩ := List.mem_map.1 e
      injection e2 with e3 e4
      subst e3; subst e4
      by_cases hyb : y = b
      · rw [hyb]; exact hnow
      · rw [hother y hyb, ← hfg y hyb]
        exact h.now y _ (List.mem_append_left _ (List.mem_map.2 ⟨y, hy, rfl⟩))
    · have hxb : x ≠ b := fun e2 => hnd.2.2 b hbm x (List.mem_map.2 ⟨_, e, rfl⟩) e2.symm
      rw [hother x hxb]
      exact h.now x o (List.mem_append_right _ e)
  · rw [List.map_append, e1, List.nodup_append]; exact hnd

/-- a ring of nodes: 'bl' is the root (and the length), 'els' are the others -/
def lcells (bl : Nat) (nx pv : Nat → Nat) (vl : Nat → Value) (len : Int) (b : Nat) : Array Value := if b = bl then #[Pt (nx b) 0, Pt (pv b) 0, .pointer none, .nilIface, I len] else #[Pt (nx b) 0, Pt (pv b) 0, Pt bl 0, vl b]
def lobj (tE tL bl : Nat) (nx pv : Nat → Nat) (vl : Nat → Value) (len : Int) (b : Nat) : Obj := .cells (lcells bl nx pv vl len b) (if b = bl then tL else tE) (0, 0)
def LG (tE tL bl : Nat) (els : List Nat) (nx pv : Nat → Nat) (vl : Nat → Value) (len : Int) : Hp := (bl :: els).map fun b => (b, lobj tE tL bl nx pv vl len b)
theorem lc_nx (bl : Nat) (nx pv : Nat → Nat) (vl : Nat → Value) (len : Int) (b : Nat) : (lcells bl nx pv vl len b)[0]? = some (Pt (nx b) 0) := by unfold lcells; split <;> rfl
theorem lc_pv (bl : Nat) (nx pv : Nat → Nat) (vl : Nat → Value) (len : Int) (b : Nat) : (lcells bl nx pv vl len b)[1]? = some (Pt (pv b) 0) := by unfold lcells; split <;> rfl
theorem lc_ls (bl : Nat) (nx pv : Nat → Nat) (vl : Nat → Value) (len : Int) {b : Nat} (h : b ≠ bl) : (lcells bl nx pv vl len b)[2]? = some (Pt bl 0) := by unfold lcells; rw [if_neg h]; rfl
theorem lc_vl (bl : Nat) (nx pv : Nat → Nat) (vl : Nat → Value) (len : Int) {b : Nat} (h : b ≠ bl) : (lcells bl nx pv vl len b)[3]? = some (vl b) := by unfold lcells; rw [if_neg h]; rfl
theorem lc_len (bl : Nat) (nx pv : Nat → Nat) (vl : Nat → Value) (len : Int) : (lcells bl nx pv vl len bl)[4]? = some (I len) := by unfold lcells; rw [if_pos rfl]; rfl
theorem LG.mem {tE tL bl : Nat} {els : List Nat} {nx pv : Nat → Nat} {vl : Nat → Value} {len : Int} {b : Nat} (h : b ∈ bl :: els) : (b, lobj tE tL bl nx pv vl len b) ∈ LG tE tL bl els nx pv vl len := List.mem_map.2 ⟨b, h, rfl⟩
theorem LG.snoc (tE tL bl : Nat) (els : List Nat) (nx pv : Nat → Nat) (vl : Nat → Value) (len : Int) (e n p : Nat) (v : Value) (hb : e ≠ bl) (he : e ∉ els) :
    LG tE tL bl els nx pv vl len ++ [(e, .cells #[Pt n 0, Pt p 0, Pt bl 0, v] tE (0, 0))] = LG tE tL bl (els ++ [e]) (upd nx e n) (upd pv e p) (upd vl e v) len := by
  unfold LG
  rw [← List.cons_append, List.map_append]
  congr 1
  · refine List.map_congr_left fun x hx => ?_
    have hne : x ≠ e := fun h => by subst h; rcases List.mem_cons.1 hx with h | h; exact hb h; exact he h
    unfold lobj lcells
    rw [upd_ne _ _ hne, upd_ne _ _ hne, upd_ne _ _ hne]
  · simp only [List.map_cons, List.map_nil, lobj, lcells, if_neg hb, upd_same]
theorem LG.out {tE tL bl : Nat} {els : List Nat} {nx pv : Nat → Nat} {vl : Nat → Value} {len : Int} {e : Nat} (hb : e ≠ bl) (he : e ∈ els) :
    (LG tE tL bl els nx pv vl len).Perm ([(e, .cells #[Pt (nx e) 0, Pt (pv e) 0, Pt bl 0, vl e] tE (0, 0))] ++ LG tE tL bl (els.erase e) nx pv vl len) := by
  have p := List.perm_cons_erase he
  unfold LG
  refine ((p.cons bl).map _).trans ?_
  refine (List.Perm.swap _ _ _).map _ |>.trans ?_
  show ((e, lobj tE tL bl nx pv vl len e) :: _).Perm _
  have : lobj tE tL bl nx pv vl len e = .cells #[Pt (nx e) 0, Pt (pv e) 0, Pt bl 0, vl e] tE (0, 0) := by unfold lobj lcells; rw [if_neg hb, if_neg hb]
  rw [this]
  exact List.Perm.refl _
section
variable {P : Program} {n : Nat} {w0 : World} {ds : List Deferred} {fr : Fr} {H H' : List Hp} {dst : Option Tmp} {ty : TypeId} {pos : String} {aft : Array Edge} {g : Option (Nat × Bool)}
variable {ops : Array Oper} {Q : Post} {rest : List Oper} {d : Nat}
variable {tE tL bl : Nat} {els : List Nat} {nx pv : Nat → Nat} {vl : Nat → Value} {len : Int}
theorem oq_lnx {t : TypeId} {x : Operand} {b c : Nat} (hm : b ∈ bl :: els) (hv : nx b = c) (ht : Flat P t) (hx : ev fr x = some (Pt b 0)) (hA : LG tE tL bl els nx pv vl len ∈ H) : OV P n w0 ⟨dst, .load t x, ty, pos, aft, g⟩ (Pt c 0) ds fr H := by
  subst hv; exact oq_load ht hx hA (LG.mem hm) (lc_nx _ _ _ _ _ _)
theorem oq_lpv {t : TypeId} {x : Operand} {b c : Nat} (hm : b ∈ bl :: els) (hv : pv b = c) (ht : Flat P t) (hx : ev fr x = some (Pt b 1)) (hA : LG tE tL bl els nx pv vl len ∈ H) : OV P n w0 ⟨dst, .load t x, ty, pos, aft, g⟩ (Pt c 0) ds fr H := by
  subst hv; exact oq_load ht hx hA (LG.mem hm) (lc_pv _ _ _ _ _ _)
theorem oq_lls {t : TypeId} {x : Operand} {b : Nat} (hm : b ∈ bl :: els) (hv : b ≠ bl) (ht : Flat P t) (hx : ev fr x = some (Pt b 2)) (hA : LG tE tL bl els nx pv vl len ∈ H) : OV P n w0 ⟨dst, .load t x, ty, pos, aft, g⟩ (Pt bl 0) ds fr H :=
  oq_load ht hx hA (LG.mem hm) (lc_ls _ _ _ _ _ hv)
theorem oq_lvl {t : TypeId} {x : Operand} {b : Nat} {v : Value} (hm : b ∈ bl :: els) (hv : b ≠ bl ∧ vl b = v) (ht : Flat P t) (hx : ev fr x = some (Pt b 3)) (hA : LG tE tL bl els nx pv vl len ∈ H) : OV P n w0 ⟨dst, .load t x, ty, pos, aft, g⟩ v ds fr H := by
  obtain ⟨h1, rfl⟩ := hv
  exact oq_load ht hx hA (LG.mem hm) (lc_vl _ _ _ _ _ h1)
theorem oq_llen {t : TypeId} {x : Operand} (ht : Flat P t) (hx : ev fr x = some (Pt bl 4)) (hA : LG tE tL bl els nx pv vl len ∈ H) : OV P n w0 ⟨dst, .load t x, ty, pos, aft, g⟩ (I len) ds fr H :=
  oq_load ht hx hA (LG.mem List.mem_cons_self) (lc_len _ _ _ _ _)
theorem WL.stCell {t : TypeId} {x y : Operand} {b off : Nat} {f k : Nat → Obj} {bs : List Nat} {c c' : Array Value} {e : TypeId} {v z : Value} {bytes : Nat} (hm : b ∈ bs) (hf : f b = .cells c e (0, 0)) (hk' : k b = .cells c' e (0, 0)) (hc' : c.setIfInBounds off v = c') (hfk : ∀ x, x ≠ b → f x = k x)
    (hty : Ty P t z 1 bytes) (hx : ev fr x = some (Pt b off)) (hy : ev fr y = some v) (h1 : v.oneCell' = true) (hc : off < c.size)
    (hg : gd ops fr ⟨none, .store t x y, ty, pos, aft, g⟩ = some true)
    (hk : WL P n w0 ops Q rest ds fr (bs.map (fun x => (x, k x)) :: H)) : WL P n w0 ops Q (⟨none, .store t x y, ty, pos, aft, g⟩ :: rest) ds fr (bs.map (fun x => (x, f x)) :: H) := by
  intro a w hfit hw
  have hw' : St w0 (bs.map (fun x => (x, f x)) ++ H.flatten) w := by simpa using hw
  unfold wpList
  rw [gd_wanted hfit hg, if_pos rfl]
  left
  unfold Oper.wp
  obtain ⟨i, hi, _, hs, _⟩ := hty
  have hnow : w.heap[b]? = some (.cells c e (0, 0)) := by rw [← hf]; exact hw'.now b _ (List.mem_append_left _ (List.mem_map.2 ⟨b, hm, rfl⟩))
  have hrun : (execOp a.eval ⟨none, .store t x y, ty, pos, aft, g⟩).run P w = .ok .skip (w.setCell ⟨b, off, none⟩ v) := by
    have := run_store_at (P := P) hnow hc h1 (by simp)
    simp [execOp, hfit.eval hx, hfit.eval hy, Instr.storeAt, Instr.sureAddr, storeVar, one_cells h1, sizeOf, typeInfo, hi, hs, storeCells, add_none, this]
  rw [hrun, Oper.upon_skip]
  have := St.updM (g := k) hw' hm hfk (w' := w.setCell ⟨b, off, none⟩ v) rfl rfl rfl (by simp [World.setCell]) (by rw [heap_setCell_same hnow v, hc', hk']) (fun j hj => Below.heap_setCell w _ v j hj)
  exact hk _ _ hfit (by simpa using this)
theorem lset_nx (bl : Nat) (nx pv : Nat → Nat) (vl : Nat → Value) (len : Int) (b c : Nat) : (lcells bl nx pv vl len b).setIfInBounds 0 (Pt c 0) = lcells bl (upd nx b c) pv vl len b := by
  unfold lcells; split <;> rw [upd_same] <;> rfl
theorem lset_pv (bl : Nat) (nx pv : Nat → Nat) (vl : Nat → Value) (len : Int) (b c : Nat) : (lcells bl nx pv vl len b).setIfInBounds 1 (Pt c 0) = lcells bl nx (upd pv b c) vl len b := by
  unfold lcells; split <;> rw [upd_same] <;> rfl
theorem lset_len (bl : Nat) (nx pv : Nat → Nat) (vl : Nat → Value) (len m : Int) : (lcells bl nx pv vl len bl).setIfInBounds 4 (I m) = lcells bl nx pv vl m bl := by
  unfold lcells; rw [if_pos rfl, if_pos rfl]; rfl
theorem lsize (bl : Nat) (nx pv : Nat → Nat) (vl : Nat → Value) (len : Int) (b : Nat) : 4 ≤ (lcells bl nx pv vl len b).size := by unfold lcells; split <;> simp
theorem WL.snx {t : TypeId} {x y : Operand} {b c : Nat} {z : Value} {bytes : Nat} (hm : b ∈ bl :: els) (hty : Ty P t z 1 bytes) (hx : ev fr x = some (Pt b 0)) (hy : ev fr y = some (Pt c 0)) (hg : gd ops fr ⟨none, .store t x y, ty, pos, aft, g⟩ = some true)
    (hk : WL P n w0 ops Q rest ds fr (LG tE tL bl els (upd nx b c) pv vl len :: H)) : WL P n w0 ops Q (⟨none, .store t x y, ty, pos, aft, g⟩ :: rest) ds fr (LG tE tL bl els nx pv vl len :: H) :=
  WL.stCell (f := lobj tE tL bl nx pv vl len) (k := lobj tE tL bl (upd nx b c) pv vl len) hm rfl rfl (lset_nx _ _ _ _ _ _ _) (fun x hne => by unfold lobj lcells; rw [upd_ne _ _ hne]) hty hx hy rfl (by have := lsize bl nx pv vl len b; omega) hg hk
theorem WL.spv {t : TypeId} {x y : Operand} {b c : Nat} {z : Value} {bytes : Nat} (hm : b ∈ bl :: els) (hty : Ty P t z 1 bytes) (hx : ev fr x = some (Pt b 1)) (hy : ev fr y = some (Pt c 0)) (hg : gd ops fr ⟨none, .store t x y, ty, pos, aft, g⟩ = some true)
    (hk : WL P n w0 ops Q rest ds fr (LG tE tL bl els nx (upd pv b c) vl len :: H)) : WL P n w0 ops Q (⟨none, .store t x y, ty, pos, aft, g⟩ :: rest) ds fr (LG tE tL bl els nx pv vl len :: H) :=
  WL.stCell (f := lobj tE tL bl nx pv vl len) (k := lobj tE tL bl nx (upd pv b c) vl len) hm rfl rfl (lset_pv _ _ _ _ _ _ _) (fun x hne => by unfold lobj lcells; rw [upd_ne _ _ hne]) hty hx hy rfl (by have := lsize bl nx pv vl len b; omega) hg hk
theorem WL.slen {t : TypeId} {x y : Operand} {m : Int} {z : Value} {bytes : Nat} (hty : Ty P t z 1 bytes) (hx : ev fr x = some (Pt bl 4)) (hy : ev fr y = some (I m)) (hg : gd ops fr ⟨none, .store t x y, ty, pos, aft, g⟩ = some true)
    (hk : WL P n w0 ops Q rest ds fr (LG tE tL bl els nx pv vl m :: H)) : WL P n w0 ops Q (⟨none, .store t x y, ty, pos, aft, g⟩ :: rest) ds fr (LG tE tL bl els nx pv vl len :: H) :=
  WL.stCell (f := lobj tE tL bl nx pv vl len) (k := lobj tE tL bl nx pv vl m) List.mem_cons_self rfl rfl (lset_len _ _ _ _ _ _) (fun x hne => by simp only [lobj, lcells, if_neg hne]) hty hx hy rfl (by simp [lcells]) hg hk
/-- two pointers to blocks that are told of -/
theorem oq_peq {t t' te : TypeId} {x y : Operand} {b c : Nat} {z : Value} {size bytes : Nat} {cb cc : Array Value} {eb ec : TypeId} {A B : Hp} (ht : P.underlying t = some (.pointer te)) (hty : Ty P te z size bytes) (h0 : size ≠ 0) (hA : A ∈ H) (hb : (b, .cells cb eb (0, 0)) ∈ A) (hB : B ∈ H) (hc : (c, .cells cc ec (0, 0)) ∈ B) (hx : ev fr x = some (Pt b 0)) (hy : ev fr y = some (Pt c 0)) :
    OV P n w0 ⟨dst, .binOp .eql t x y t', ty, pos, aft, g⟩ (.bool (decide (b = c))) ds fr H :=
  oq_of_run fun a w hf hw => by
    obtain ⟨j, hj, _, hsz, _⟩ := hty
    by_cases e : b = c
    · subst e
      have h := run_eql_ptr_same (P := P) w ⟨b, 0, none⟩ ht hj
      simp [execOp, hf.eval hx, hf.eval hy, eqGuard, h]
    · have h := run_eql_ptr_other (P := P) w (a := ⟨b, 0, none⟩) (b := ⟨c, 0, none⟩) ht hj (by rw [hsz]; exact h0) (by simp [e]) (hw.now b _ (mem_flat hA hb)) (hw.now c _ (mem_flat hB hc))
      simp [execOp, hf.eval hx, hf.eval hy, eqGuard, h, e]
theorem oq_pesame {t t' te : TypeId} {x y : Operand} {q : Addr} {z : Value} {size bytes : Nat} (ht : P.underlying t = some (.pointer te)) (hty : Ty P te z size bytes) (hx : ev fr x = some (.pointer (some q))) (hy : ev fr y = some (.pointer (some q))) : OV P n w0 ⟨dst, .binOp .eql t x y t', ty, pos, aft, g⟩ (.bool true) ds fr H :=
  oq_of_run fun a w hf _ => by
    obtain ⟨j, hj, _⟩ := hty
    have h := run_eql_ptr_same (P := P) w q ht hj
    simp [execOp, hf.eval hx, hf.eval hy, eqGuard, h]
/-- a type assertion that holds -/
theorem oq_askT {k u : TypeId} {x : Operand} {v : Value} (hc : Conc P k) (hx : ev fr x = some (.iface k v)) : OV P n w0 ⟨dst, .typeAssert x u k false, ty, pos, aft, g⟩ v ds fr H :=
  oq_of_run fun a w hf _ => by
    obtain ⟨d', hd, hx'⟩ := hc
    cases d' <;> simp_all [execOp, Instr.typeAssert, hf.eval hx, run_underlying hd]
theorem oq_askC {k u : TypeId} {x : Operand} {v : Value} (hc : Conc P k) (hx : ev fr x = some (.iface k v)) : OV P n w0 ⟨dst, .typeAssert x u k true, ty, pos, aft, g⟩ (.tuple #[v, .bool true]) ds fr H :=
  oq_of_run fun a w hf _ => by
    obtain ⟨d', hd, hx'⟩ := hc
    cases d' <;> simp_all [execOp, Instr.typeAssert, hf.eval hx, run_underlying hd]
theorem oq_askNil {k u : TypeId} {x : Operand} {z : Value} {size bytes : Nat} (hc : Conc P k) (hty : Ty P k z size bytes) (hx : ev fr x = some .nilIface) : OV P n w0 ⟨dst, .typeAssert x u k true, ty, pos, aft, g⟩ (.tuple #[z, .bool false]) ds fr H :=
  oq_of_run fun a w hf _ => by
    obtain ⟨d', hd, hx'⟩ := hc
    obtain ⟨i, hi, hz, _⟩ := hty
    cases d' <;> simp_all [execOp, Instr.typeAssert, hf.eval hx, run_underlying hd, zeroValue, typeInfo]
end
end Go.Proofs.YtodlhaghdplclaaDoor.V
