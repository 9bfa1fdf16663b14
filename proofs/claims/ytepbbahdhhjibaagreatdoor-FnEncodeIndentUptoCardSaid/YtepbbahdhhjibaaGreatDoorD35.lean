/- own text -/
import Derived.Orders
import Derived.RegionTactic
import Derived.Deep.Cut
import Derived.Test.YtepbbahdhhjibaaGreatDoorD00
namespace Go.Proofs.YtepbbahdhhjibaaGreatDoor
set_option linter.unusedSimpArgs false
set_option linter.unusedVariables false
set_option maxHeartbeats 200000
set_option maxRecDepth 512
open Go.RowKit
def unl (l : Array Bool) : Nat := (l.toList.filter (!·)).length
theorem unl_set : ∀ (l : List Bool) (i : Nat), l[i]? = some false -> ((l.set i true).filter (!·)).length + 1 = (l.filter (!·)).length := by
 intro l
 induction l with
 | nil => intro i h; simp at h
 | cons b l ih =>
  intro i h
  cases i with
  | zero =>
   have hb : b = false := by simpa using h
   subst hb
   simp
  | succ i =>
   have := ih i (by simpa using h)
   cases b <;> simp at this ⊢ <;> omega
theorem getD_false {listed : Array Bool} {i : Nat} (h : listed.getD i true = false) : listed.toList[i]? = some false := by
 rw [Array.getD_eq_getD_getElem?] at h
 rw [Array.getElem?_toList]
 cases hx : listed[i]? with
 | none => rw [hx] at h; cases h
 | some b => rw [hx] at h; exact congrArg some h
theorem wpAny_inv {P : Program} {md : Region.Mode} {ops : Array Oper} {Q : Exit -> Act -> World -> Prop} (S : Array Bool -> Act -> World -> Prop)
  (hstep : ∀ listed a w i o, ops[i]? = some o -> listed.size = ops.size -> listed.getD i true = false -> (∀ e ∈ o.after, Region.binds md e = true -> listed.getD e.on false = true) -> S listed a w ->
   ∀ K : Act -> World -> Prop, (∀ a w, S (listed.setIfInBounds i true) a w -> K a w) -> if Region.wanted o (yielded ops a.tmps) = true then o.wp P a w K Q else K (a.put o.dst undef) w)
  (hend : ∀ listed a w, listed.size = ops.size -> Region.ready md ops listed = [] -> S listed a w -> Q .normal a w) :
  ∀ (f : Nat) (listed : Array Bool) (a : Act) (w : World), listed.size = ops.size -> unl listed <= f -> S listed a w -> wpAny P md ops Q f listed a w := by
 intro f
 induction f with
 | zero =>
  intro listed a w hs hu hS
  have hr : Region.ready md ops listed = [] := by
   cases hr : Region.ready md ops listed with
   | nil => rfl
   | cons x xs =>
    exfalso
    have hx : x ∈ Region.ready md ops listed := by rw [hr]; exact List.mem_cons_self
    have h1 := getD_false (mem_ready.1 hx).1
    have h2 := unl_set listed.toList x h1
    unfold unl at hu
    omega
  exact ⟨hr, hend listed a w hs hr hS⟩
 | succ f ih =>
  intro listed a w hs hu hS
  refine ⟨fun hr => hend listed a w hs hr hS, fun i hi => ?_⟩
  obtain ⟨h0, o, ho, hall⟩ := mem_ready.1 hi
  refine wpOp_step ho (fun K hK => hstep listed a w i o ho hs h0 hall hS K (fun a' w' h' => hK _ _ (ih _ a' w' (by simp [hs]) ?_ h')))
  have h2 := unl_set listed.toList i (getD_false h0)
  unfold unl at hu ⊢
  rw [Array.toList_setIfInBounds]
  omega
theorem all_listed {md : Region.Mode} {ops : Array Oper} {listed : Array Bool} (hwf : ∀ (i : Nat) (o : Oper), ops[i]? = some o -> ∀ e ∈ o.after, Region.binds md e = true -> e.on < i) (hs : listed.size = ops.size) (hr : Region.ready md ops listed = []) : ∀ i, i < ops.size -> listed.getD i false = true := by
 intro i
 induction i using Nat.strongRecOn with
 | ind i ih =>
  intro hi
  cases hg : listed.getD i true with
  | false =>
   exfalso
   have : i ∈ Region.ready md ops listed := mem_ready.2 ⟨hg, ops[i], Array.getElem?_eq_getElem hi, fun e he hb => by
    have h1 := hwf i ops[i] (Array.getElem?_eq_getElem hi) e he hb
    exact ih e.on h1 (by omega)⟩
   rw [hr] at this
   cases this
  | true =>
   rw [Array.getD_eq_getD_getElem?] at hg ⊢
   rw [Array.getElem?_eq_getElem (by omega)] at hg ⊢
   exact hg
structure Rest (lo hi : Nat) (a0 a : Act) : Prop where
 size : a.tmps.size = a0.tmps.size
 defers : a.defers = a0.defers
 slot : ∀ t, t < lo \/ hi <= t -> a.tmps[t]? = a0.tmps[t]?
theorem Rest.refl (lo hi : Nat) (a : Act) : Rest lo hi a a := ⟨rfl, rfl, fun _ _ => rfl⟩
theorem Rest.put {lo hi : Nat} {a0 a : Act} (h : Rest lo hi a0 a) {d : Nat} (hd : lo <= d /\ d < hi) (v : Value) : Rest lo hi a0 (a.put (some d) v) := by
 refine ⟨by simp [Act.put, h.size], h.defers, fun t ht => ?_⟩
 have : d ≠ t := by omega
 simp only [Act.put]
 rw [Array.getElem?_setIfInBounds_ne this]
 exact h.slot t ht
theorem slot_put_eq {a : Act} {d : Nat} {v : Value} (hd : d < a.tmps.size) : (a.put (some d) v).tmps[d]? = some v := by
 simp [Act.put, hd]
theorem slot_put_ne {a : Act} {d t : Nat} {v : Value} (h : d ≠ t) : (a.put (some d) v).tmps[t]? = a.tmps[t]? := by
 simp only [Act.put]
 rw [Array.getElem?_setIfInBounds_ne h]
theorem eval_slot {a : Act} {t : Nat} {v : Value} (h : a.tmps[t]? = some v) : a.eval (.tmp t) = v := by
 simp [Act.eval, Array.getD_eq_getD_getElem?, h]
theorem wanted_none {ops : Array Oper} {o : Oper} {a : Act} (h : o.guard = none) : Region.wanted o (yielded ops a.tmps) = true := by simp [Region.wanted, h]
theorem listed_set {listed : Array Bool} {i j : Nat} (h : (listed.setIfInBounds i true).getD j false = true) : j = i \/ listed.getD j false = true := by
 by_cases hij : i = j
 ·exact .inl hij.symm
 ·right
  rw [Array.getD_eq_getD_getElem?, Array.getElem?_setIfInBounds_ne hij, <- Array.getD_eq_getD_getElem?] at h
  exact h
theorem op_value {P : Program} {ops : Array Oper} {o : Oper} {a : Act} {w w' : World} {K : Act -> World -> Prop} {Q : Exit -> Act -> World -> Prop} {v : Value} (hg : o.guard = none) (hr : (execOp a.eval o).run P w = .ok (.value v) w') (h : K (a.put o.dst v) w') : if Region.wanted o (yielded ops a.tmps) = true then o.wp P a w K Q else K (a.put o.dst undef) w := by
 rw [if_pos (wanted_none hg)]
 unfold Oper.wp
 rw [hr]
 exact h
theorem op_skip {P : Program} {ops : Array Oper} {o : Oper} {a : Act} {w w' : World} {K : Act -> World -> Prop} {Q : Exit -> Act -> World -> Prop} (hg : o.guard = none) (hr : (execOp a.eval o).run P w = .ok .skip w') (h : K (a.put o.dst undef) w') : if Region.wanted o (yielded ops a.tmps) = true then o.wp P a w K Q else K (a.put o.dst undef) w := by
 rw [if_pos (wanted_none hg)]
 unfold Oper.wp
 rw [hr]
 exact h
def deps (md : Region.Mode) (o : Oper) : List Nat := (o.after.toList.filter (Region.binds md ·)).map (·.on)
def AllOps (Pd : Nat -> Oper -> Prop) : Nat -> List Oper -> Prop
 | _, [] => True
 | k, o :: l => Pd k o /\ AllOps Pd (k + 1) l
theorem AllOps.get {Pd : Nat -> Oper -> Prop} : ∀ {l : List Oper} {k : Nat}, AllOps Pd k l -> ∀ {i : Nat} {o : Oper}, l[i]? = some o -> Pd (k + i) o := by
 intro l
 induction l with
 | nil => intro k _ i o h; simp at h
 | cons x l ih =>
  intro k h i o ho
  cases i with
  | zero =>
   have : x = o := by simpa using ho
   subst this
   exact h.1
  | succ i =>
   have := ih h.2 (i := i) (o := o) (by simpa using ho)
   rwa [show k + 1 + i = k + (i + 1) by omega] at this
def wfOps (l : List Oper) : Bool := (List.range l.length).all fun i => match l[i]? with
 | some o => o.after.toList.all fun e => !Region.binds .any e || decide (e.on < i)
 | none => true
def StepR (P : Program) (md : Region.Mode) (ops : Array Oper) (Q : Exit -> Act -> World -> Prop) (S : (Nat -> Bool) -> Act -> World -> Prop) (k : Nat) (o : Oper) : Prop :=
 ∀ (L : Nat -> Bool) (a : Act) (w : World), L k = false -> (∀ j ∈ deps md o, L j = true) -> S L a w ->
  ∀ K : Act -> World -> Prop, (∀ a w, S (fun j => j == k || L j) a w -> K a w) -> if Region.wanted o (yielded ops a.tmps) = true then o.wp P a w K Q else K (a.put o.dst undef) w
theorem wp_region_inv {P : Program} {id : Nat} {l : List Oper} {Q : Exit -> Act -> World -> Prop} {a : Act} {w : World} (S : (Nat -> Bool) -> Act -> World -> Prop) (hm : P.follows .mixedOrders = true) (hwf : wfOps l = true)
  (hS : ∀ (L L' : Nat -> Bool) (a : Act) (w : World), (∀ j, j < l.length -> L j = L' j) -> S L a w -> S L' a w)
  (h0 : S (fun _ => false) a w.drew) (hstep : AllOps (StepR P .any l.toArray Q S) 0 l)
  (hend : ∀ (a : Act) (w : World), S (fun _ => true) a w -> Q .normal a w) : (Code.region id l.toArray true).wp P Q a w := by
 have hwf' : ∀ (i : Nat) (o : Oper), l.toArray[i]? = some o -> ∀ e ∈ o.after, Region.binds .any e = true -> e.on < i := fun i o ho e he hb => by
  have h1 : l[i]? = some o := by simpa using ho
  have h2 := List.all_eq_true.1 hwf i (List.mem_range.2 (List.getElem?_eq_some_iff.1 h1).1)
  simp only [h1, List.all_eq_true, Bool.or_eq_true, Bool.not_eq_true', decide_eq_true_eq] at h2
  exact (h2 e (by simpa using he)).resolve_left (by rw [hb]; simp)
 have hlt : ∀ (i : Nat) (o : Oper), l.toArray[i]? = some o -> i < l.length := fun i o ho => by
  have h1 : l[i]? = some o := by simpa using ho
  exact (List.getElem?_eq_some_iff.1 h1).1
 refine wp_region_any hm ?_
 refine wpAny_inv (fun listed a w => S (fun j => listed.getD j false) a w) ?_ ?_ _ _ _ _ (by simp) (by simp [unl]) (hS _ _ _ _ (fun j hj => by simp [Array.getD_eq_getD_getElem?, hj]) h0)
 ·intro listed a w i o ho hs hl hall hSl K hK
  have h1 := hstep.get (i := i) (o := o) (by simpa using ho)
  rw [Nat.zero_add] at h1
  have hl' : listed.getD i false = false := by
   have h2 := getD_false hl
   rw [Array.getElem?_toList] at h2
   rw [Array.getD_eq_getD_getElem?, h2]; rfl
  refine h1 (fun j => listed.getD j false) a w hl' (fun j hj => ?_) hSl K (fun a' w' h' => hK a' w' (hS _ _ _ _ (fun j hj => ?_) h'))
  ·obtain ⟨e, he, rfl⟩ := List.mem_map.1 hj
   obtain ⟨h3, h4⟩ := List.mem_filter.1 he
   exact hall e (by simpa using h3) h4
  ·have hi := hlt i o ho
   have hsz : listed.size = l.length := by rw [hs]; simp
   by_cases hij : j = i
   ·subst hij
    simp [Array.getD_eq_getD_getElem?, hsz, hi]
   ·have : (j == i) = false := by simpa using hij
    show (j == i || listed.getD j false) = _
    rw [this, Bool.false_or, Array.getD_eq_getD_getElem?, Array.getD_eq_getD_getElem?, Array.getElem?_setIfInBounds_ne (Ne.symm hij)]
 ·intro listed a w hs hr hSl
  have hall := all_listed hwf' hs hr
  exact hend a w (hS _ _ _ _ (fun j hj => hall j (by simpa using hj)) hSl)
theorem wp_cut_slots {P : Program} {s : Code} {K : Act -> World -> Prop} {Q' : Exit -> Act -> World -> Prop} {a : Act} {w : World} (lo n : Nat) (R : List Value -> World -> Prop)
  (rest : ∀ us : List Value, us.length = n -> ∀ w', R us w' -> K ⟨(a.tmps.toList.take lo ++ us ++ a.tmps.toList.drop (lo + n)).toArray, a.defers⟩ w')
  (hlo : lo + n <= a.tmps.size)
  (first : ∀ J : Act -> World -> Prop, (∀ a' w', Rest lo (lo + n) a a' -> R ((a'.tmps.toList.drop lo).take n) w' -> J a' w') -> s.wp P (Exit.then J Q') a w) : s.wp P (Exit.then K Q') a w := by
 refine wp_cut (fun a' w' => Rest lo (lo + n) a a' /\ R ((a'.tmps.toList.drop lo).take n) w') (fun a' w' h => ?_) (fun J K' hJ hK => first _ (fun a' w' h1 h2 => hK a' w' (hJ a' w' ⟨h1, h2⟩)))
 obtain ⟨h1, h2⟩ := h
 have h3 := rest ((a'.tmps.toList.drop lo).take n) (by have := h1.size; simp; omega) w' h2
 have e : a' = ⟨(a.tmps.toList.take lo ++ (a'.tmps.toList.drop lo).take n ++ a.tmps.toList.drop (lo + n)).toArray, a.defers⟩ := by
  obtain ⟨t', d'⟩ := a'
  have hd : d' = a.defers := h1.defers
  have hsz : t'.size = a.tmps.size := h1.size
  subst hd
  congr 1
  apply Array.ext_getElem?
  intro i
  have hL : (List.take lo a.tmps.toList ++ List.take n (List.drop lo t'.toList) ++ List.drop (lo + n) a.tmps.toList).toArray[i]? = (List.take lo a.tmps.toList ++ List.take n (List.drop lo t'.toList) ++ List.drop (lo + n) a.tmps.toList)[i]? := by simp
  rw [hL]
  have l1 : (List.take lo a.tmps.toList).length = lo := by simp; omega
  have l2 : (List.take n (List.drop lo t'.toList)).length = n := by simp; omega
  by_cases h4 : i < lo
  ·rw [List.append_assoc, List.getElem?_append_left (by omega), List.getElem?_take_of_lt h4, Array.getElem?_toList]
   exact h1.slot i (.inl h4)
  ·by_cases h5 : i < lo + n
   ·rw [List.getElem?_append_left (by rw [List.length_append, l1, l2]; omega), List.getElem?_append_right (by omega), l1]
    rw [List.getElem?_take_of_lt (by omega), List.getElem?_drop, Array.getElem?_toList]
    congr 1
    omega
   ·rw [List.getElem?_append_right (by rw [List.length_append, l1, l2]; omega), List.length_append, l1, l2, List.getElem?_drop, Array.getElem?_toList]
    rw [show lo + n + (i - (lo + n)) = i by omega]
    exact h1.slot i (.inr (by omega))
 rw [e]
 exact h3
theorem wp_cut_rest {P : Program} {s : Code} {K : Act -> World -> Prop} {Q' : Exit -> Act -> World -> Prop} {a : Act} {w : World} (lo n : Nat) (R : World -> Prop)
  (rest : ∀ us : List Value, us.length = n -> ∀ w', R w' -> K ⟨(a.tmps.toList.take lo ++ us ++ a.tmps.toList.drop (lo + n)).toArray, a.defers⟩ w')
  (hlo : lo + n <= a.tmps.size)
  (first : ∀ J : Act -> World -> Prop, (∀ a' w', Rest lo (lo + n) a a' -> R w' -> J a' w') -> s.wp P (Exit.then J Q') a w) : s.wp P (Exit.then K Q') a w :=
 wp_cut_slots lo n (fun _ w' => R w') rest hlo first
structure SV (lo hi : Nat) (vals : Nat -> Option Value) (w0 : World) (f : Act) (L : Nat -> Bool) (a : Act) (w : World) : Prop where
 rest : Rest lo hi f a
 old : Old w0 w
 val : ∀ i v, vals i = some v -> L i = true -> a.tmps[lo + i]? = some v
theorem SV.congr {lo hi : Nat} {vals : Nat -> Option Value} {w0 : World} {f : Act} {L L' : Nat -> Bool} {a : Act} {w : World} (h : SV lo hi vals w0 f L a w) (n : Nat) (hv : ∀ i v, vals i = some v -> i < n) (e : ∀ j, j < n -> L j = L' j) : SV lo hi vals w0 f L' a w :=
 ⟨h.rest, h.old, fun i v hi' hl => h.val i v hi' (by rw [e i (hv i v hi')]; exact hl)⟩
theorem SV.put {lo hi : Nat} {vals : Nat -> Option Value} {w0 : World} {f : Act} {L : Nat -> Bool} {a : Act} {w w' : World} (h : SV lo hi vals w0 f L a w) (i : Nat) (v : Value) (hv : ∀ u, vals i = some u -> v = u) (hi' : lo + i < hi) (hsz : hi <= f.tmps.size) (ho : Old w w') : SV lo hi vals w0 f (fun j => j == i || L j) (a.put (some (lo + i)) v) w' := by
 refine ⟨h.rest.put ⟨by omega, hi'⟩ v, h.old.trans ho (fun _ h => .inl h), fun j u hu hj => ?_⟩
 by_cases hji : j = i
 ·subst hji
  rw [slot_put_eq (by rw [h.rest.size]; omega), hv u hu]
 ·rw [slot_put_ne (by omega)]
  exact h.val j u hu (by simpa [hji] using hj)
theorem op_not {P : Program} {ops : Array Oper} {o : Oper} {a : Act} {w : World} {K : Act -> World -> Prop} {Q : Exit -> Act -> World -> Prop} (hg : Region.wanted o (yielded ops a.tmps) = false) (h : K (a.put o.dst undef) w) : if Region.wanted o (yielded ops a.tmps) = true then o.wp P a w K Q else K (a.put o.dst undef) w := by
 rw [hg]; exact h
theorem op_yes {P : Program} {ops : Array Oper} {o : Oper} {a : Act} {w w' : World} {K : Act -> World -> Prop} {Q : Exit -> Act -> World -> Prop} {v : Value} (hg : Region.wanted o (yielded ops a.tmps) = true) (hr : (execOp a.eval o).run P w = .ok (.value v) w') (h : K (a.put o.dst v) w') : if Region.wanted o (yielded ops a.tmps) = true then o.wp P a w K Q else K (a.put o.dst undef) w := by
 rw [if_pos hg]
 unfold Oper.wp
 rw [hr]
 exact h
theorem op_call {P : Program} {ops : Array Oper} {o : Oper} {a : Act} {w : World} {K : Act -> World -> Prop} {Q : Exit -> Act -> World -> Prop} {fn : FuncId} {args : Array Value} {R : Ending -> World -> Prop} (hg : o.guard = none) (hr : (execOp a.eval o).run P w = .ok (.enter fn args) w) (hc : Calls P fn args w R) (h : ∀ e w', R e w' -> ∃ v, e = .returned v /\ K (a.put o.dst v) w') : if Region.wanted o (yielded ops a.tmps) = true then o.wp P a w K Q else K (a.put o.dst undef) w := by
 rw [if_pos (wanted_none hg)]
 unfold Oper.wp
 rw [hr]
 refine hc.mono fun e w' hR => ?_
 obtain ⟨v, rfl, hK⟩ := h e w' hR
 exact hK
end Go.Proofs.YtepbbahdhhjibaaGreatDoor
