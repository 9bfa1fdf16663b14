/- own text -/
import Derived.Test.YtepbbahdhhjibaaGreatDoorC46
namespace Go.Proofs.YtepbbahdhhjibaaGreatDoor
set_option linter.unusedSimpArgs false
set_option linter.unusedVariables false
set_option maxHeartbeats 8000000
set_option maxRecDepth 100000
section
open Go.RowKit
theorem addG_cases (l : List GT) (t : GT) : (t.kind = 3 /\ t.txt.size = 0 /\ addG l t = l) \/ (t.kind = 3 /\ t.txt.size ≠ 0 /\ ∃ l0 u, l = l0 ++ [u] /\ u.kind = 3 /\ addG l t = l0 ++ [{ u with txt := u.txt ++ t.txt, pos := t.pos }]) \/ (t.kind ≠ 3 /\ addG l t = l ++ [t]) \/ (t.kind = 3 /\ t.txt.size ≠ 0 /\ l = [] /\ addG l t = l ++ [t]) \/ (t.kind = 3 /\ t.txt.size ≠ 0 /\ (∃ l0 u, l = l0 ++ [u] /\ u.kind ≠ 3) /\ addG l t = l ++ [t]) := by
 by_cases hk : t.kind = 3
 ·by_cases hz : t.txt.size = 0
  ·exact .inl ⟨hk, hz, by unfold addG; rw [if_pos ⟨hk, hz⟩]⟩
  ·rcases snoc_or l with rfl | ⟨l0, u, rfl⟩
   ·exact .inr (.inr (.inr (.inl ⟨hk, hz, rfl, by unfold addG; rw [if_neg (fun e => hz e.2)]; rfl⟩)))
   ·by_cases hu : u.kind = 3
    ·exact .inr (.inl ⟨hk, hz, l0, u, rfl, hu, by unfold addG; rw [if_neg (fun e => hz e.2)]; simp [hk, hu]⟩)
    ·exact .inr (.inr (.inr (.inr ⟨hk, hz, ⟨l0, u, rfl, hu⟩, by unfold addG; rw [if_neg (fun e => hz e.2)]; simp [hu]⟩)))
 ·refine .inr (.inr (.inl ⟨hk, ?_⟩))
  unfold addG
  rw [if_neg (fun e => hk e.1)]
  cases l.getLast? with
  | none => rfl
  | some u => simp only []; rw [if_neg (fun e => hk e.1)]
def txtSum (gs : List GT) : Nat := (gs.map fun g => g.txt.size).sum
theorem txtSum_app (a b : List GT) : txtSum (a ++ b) = txtSum a + txtSum b := by simp [txtSum]
theorem txtSum_one (g : GT) : txtSum [g] = g.txt.size := by simp [txtSum]
theorem addG_sum (l : List GT) (t : GT) : txtSum (addG l t) <= txtSum l + t.txt.size /\ (addG l t).length <= l.length + 1 := by
 rcases addG_cases l t with ⟨_, _, e⟩ | ⟨_, _, l0, u, rfl, _, e⟩ | ⟨_, e⟩ | ⟨_, _, _, e⟩ | ⟨_, _, _, e⟩
 ·rw [e]; omega
 ·rw [e, txtSum_app, txtSum_app, txtSum_one, txtSum_one]; simp only [ByteArray.size_append]; simp; omega
 all_goals (rw [e, txtSum_app, txtSum_one]; simp)
theorem fold_sum : ∀ (gs l : List GT), txtSum (gs.foldl addG l) <= txtSum l + txtSum gs /\ (gs.foldl addG l).length <= l.length + gs.length := by
 intro gs
 induction gs with
 | nil => intro l; simp [txtSum]
 | cons g gs ih =>
  intro l
  have h1 := ih (addG l g)
  have h2 := addG_sum l g
  have e : txtSum (g :: gs) = g.txt.size + txtSum gs := by simp [txtSum]
  rw [List.foldl_cons, e, List.length_cons]
  omega
theorem txtSum_mem {l : List GT} {u : GT} (h : u ∈ l) : u.txt.size <= txtSum l := by
 obtain ⟨a, b, rfl⟩ := List.append_of_mem h
 rw [txtSum_app]
 have : txtSum (u :: b) = u.txt.size + txtSum b := by simp [txtSum]
 omega
def accG (gs : List GT) (i : Nat) : List GT := (gs.take i).foldl addG []
theorem accG_succ {gs : List GT} {i : Nat} {t : GT} (h : gs[i]? = some t) : accG gs (i + 1) = addG (accG gs i) t := by
 unfold accG
 obtain ⟨hi, rfl⟩ := List.getElem?_eq_some_iff.1 h
 rw [List.take_succ_eq_append_getElem hi, List.foldl_append]; rfl
theorem accG_all (gs : List GT) : accG gs gs.length = mergeG gs := by unfold accG mergeG; rw [List.take_length]
theorem take_sum (gs : List GT) (i : Nat) : txtSum (gs.take i) <= txtSum gs := by
 conv => rhs; rw [<- List.take_append_drop i gs]
 rw [txtSum_app]; omega
theorem accG_sum (gs : List GT) (i : Nat) : txtSum (accG gs i) <= txtSum gs /\ (accG gs i).length <= i /\ (accG gs i).length <= gs.length := by
 have h := fold_sum (gs.take i) []
 have h2 := take_sum gs i
 have h3 : (gs.take i).length = min i gs.length := List.length_take
 unfold accG
 simp [txtSum] at h ⊢
 simp [txtSum] at h2
 omega
theorem TokG.unsnoc {w : World} {A : Nat -> Prop} {u : GT} : ∀ {l0 : List GT} {cs : List Value}, TokG w A (l0 ++ [u]) cs -> ∃ cs0 av, cs = cs0 ++ gtCells u av /\ TokG w A l0 cs0 /\ AttrG w A av u.ats := by
 intro l0
 induction l0 with
 | nil =>
  rintro cs ⟨av, rest, h1, h2, h3⟩
  have h3' : rest = [] := h3
  subst h3'
  exact ⟨[], av, by simpa using h1, rfl, h2⟩
 | cons x l0 ih =>
  rintro cs ⟨av, rest, h1, h2, h3⟩
  obtain ⟨cs0, av0, e1, e2, e3⟩ := ih h3
  exact ⟨gtCells x av ++ cs0, av0, by rw [h1, e1, List.append_assoc], ⟨av, cs0, rfl, h2, e2⟩, e3⟩
theorem set_last {cs0 : List Value} {m : Nat} (hm : cs0.length = m * 6) (c0 c1 c2 c3 c4 c5 a b : Value) : ((cs0 ++ [c0, c1, c2, c3, c4, c5]).set (m * 6 + 4) a).set (m * 6 + 5) b = cs0 ++ [c0, c1, c2, c3, a, b] := by
 rw [List.set_append_right _ _ (by omega), hm, show m * 6 + 4 - m * 6 = 4 by omega]
 rw [List.set_append_right _ _ (by omega), hm, show m * 6 + 5 - m * 6 = 5 by omega]
 rfl
structure MrgS (w : World) (gs : List GT) (i : Nat) (v : Value) (wr : World) : Prop where
 old : Old w wr
 ex : ∃ cs, wr.ownsRow 0 28 6 v (accG gs i).length cs /\ TokG wr (fun k => k < w.heap.size) (accG gs i) cs
 own : ∀ k, v.ownBlock = some k -> w.heap.size <= k
theorem MrgS.of_old {w wr w2 : World} {gs : List GT} {i : Nat} {v : Value} (h : MrgS w gs i v wr) (f : Old wr w2) : MrgS w gs i v w2 := by
 obtain ⟨cs, h1, h2⟩ := h.ex
 exact ⟨h.old.trans f (fun _ h => .inl h), ⟨cs, ownsRow_frame h1 f (fun _ _ h => h), h2.keep f (fun k _ hk => ⟨fun h => h, hk⟩)⟩, h.own⟩
theorem MrgS.same {w wr : World} {gs : List GT} {i : Nat} {v : Value} (h : MrgS w gs i v wr) (e : accG gs (i + 1) = accG gs i) : MrgS w gs (i + 1) v wr := ⟨h.old, by rw [e]; exact h.ex, h.own⟩
theorem MrgS.app {w wr w2 : World} {gs : List GT} {i : Nat} {v : Value} (h : MrgS w gs i v wr) {cs : List Value} (hT : TokG wr (fun k => k < w.heap.size) (accG gs i) cs) {t : GT} {av : Value} (e : accG gs (i + 1) = accG gs i ++ [t]) (hA : AttrG w (fun k => k < w.heap.size) av t.ats) {g' c' : Nat} (hrow : w2.ownsRow 0 28 6 (.slice (some ⟨g', 0, none⟩) ((accG gs i).length + 1 : Nat) c') ((accG gs i).length + 1) (cs ++ gtCells t av)) (f : Fr (fun x => v.ownBlock = some x) wr w2) (hnb : v.ownBlock = some g' \/ wr.heap.size <= g') : MrgS w gs (i + 1) (.slice (some ⟨g', 0, none⟩) ((accG gs i).length + 1 : Nat) c') w2 := by
 have ho : Old w w2 := h.old.trans f (fun x hx => .inr (h.own x hx))
 have hA2 : ∀ k, k < wr.heap.size -> k < w.heap.size -> ¬ (v.ownBlock = some k) /\ k < w.heap.size := fun k _ hk => ⟨fun e => by have := h.own k e; omega, hk⟩
 refine ⟨ho, ⟨cs ++ gtCells t av, ?_, ?_⟩, fun k hk => ?_⟩
 ·rw [e]
  have e1 : (accG gs i ++ [t]).length = (accG gs i).length + 1 := by simp
  rw [e1]; exact hrow
 ·rw [e]
  exact TokG.app (hA.keep ho (fun k hk hk2 => ⟨fun h => h, hk2⟩)) (hT.keep f hA2)
 ·have e2 : g' = k := by simpa [Value.ownBlock] using hk
  subst e2
  have := h.old.size
  rcases hnb with h1 | h1
  ·exact h.own _ h1
  ·omega
theorem MrgS.last {w wr w2 : World} {gs : List GT} {i : Nat} {go co : Nat} {l0 : List GT} {u t : GT} (h : MrgS w gs i (.slice (some ⟨go, 0, none⟩) (l0.length + 1 : Nat) co) wr) (e0 : accG gs i = l0 ++ [u]) (e : accG gs (i + 1) = l0 ++ [{ u with txt := u.txt ++ t.txt, pos := t.pos }]) {cs : List Value} (hT : TokG wr (fun k => k < w.heap.size) (accG gs i) cs)
  (hrow : w2.ownsRow 0 28 6 (.slice (some ⟨go, 0, none⟩) (l0.length + 1 : Nat) co) (l0.length + 1) ((cs.set (l0.length * 6 + 4) (.string (u.txt ++ t.txt))).set (l0.length * 6 + 5) (.int .i64 t.pos))) (f : Fr (fun x => x = go) wr w2) : MrgS w gs (i + 1) (.slice (some ⟨go, 0, none⟩) (l0.length + 1 : Nat) co) w2 := by
 have hgo := h.own go rfl
 have ho : Old w w2 := h.old.trans f (fun x hx => .inr (by have h1 : x = go := hx; omega))
 have hA2 : ∀ k, k < wr.heap.size -> k < w.heap.size -> ¬ (k = go) /\ k < w.heap.size := fun k _ hk => ⟨fun e => by omega, hk⟩
 rw [e0] at hT
 obtain ⟨cs0, av, rfl, hT0, hA0⟩ := hT.unsnoc
 have hl := hT0.len
 have hset : ((cs0 ++ gtCells u av).set (l0.length * 6 + 4) (.string (u.txt ++ t.txt))).set (l0.length * 6 + 5) (.int .i64 t.pos) = cs0 ++ gtCells { u with txt := u.txt ++ t.txt, pos := t.pos } av := set_last hl _ _ _ _ _ _ _ _
 rw [hset] at hrow
 refine ⟨ho, ⟨cs0 ++ gtCells { u with txt := u.txt ++ t.txt, pos := t.pos } av, ?_, ?_⟩, h.own⟩
 ·rw [e]
  have e1 : (l0 ++ [({ u with txt := u.txt ++ t.txt, pos := t.pos } : GT)]).length = l0.length + 1 := by simp
  rw [e1]; exact hrow
 ·rw [e]
  exact TokG.app (g := { u with txt := u.txt ++ t.txt, pos := t.pos }) (hA0.keep f hA2) (hT0.keep f hA2)
theorem merged_do (w : World) (lv : Value) (gs : List GT) (h : RowG w lv gs) (hn : gs.length <= 300000) (htx : txtSum gs <= 100000000) :
  Calls Tryz.prog 40 #[lv] w fun e w' => ∃ lv', e = .returned lv' /\ Hid (Old w w' /\ RowG w' lv' (mergeG gs)) := by
 obtain ⟨pv, cv, rfl⟩ := h.shape
 obtain ⟨N, hN⟩ : ∃ N, N = gs.length := ⟨_, rfl⟩
 obtain ⟨i0, hi0, hz0, hz1, hz2⟩ := info_parts info28
 rw [<- hN] at hn ⊢
 replace h := zz h
 replace hN := zz hN
 go_enter Tryz.func40, Tryz.ntmps40
 go_wp2
 go_loopg [3, 9] N (fun k u3 u9 wr => ∃ (i : Nat) (po : Option Addr) (m co : Nat), u3 = .slice po (m : Nat) co /\ u9 = .int .i64 i /\ i + k = N /\ MrgS w gs i (.slice po (m : Nat) co) wr)
 case atStart => exact ⟨0, none, 0, 0, rfl, rfl, by omega, Fr.refl _ _, ⟨[], World.ownsRow_nil _ _ _ _, rfl⟩, fun k hk => (by cases hk)⟩
 case round =>
  obtain ⟨i, po, m, co, rfl, rfl, hik, hS⟩ := hrel
  obtain ⟨W1, rfl⟩ : ∃ W1, W1 = wr := ⟨_, rfl⟩
  have hm : m = (accG gs i).length := by
   obtain ⟨cs, h1, _⟩ := hS.ex
   obtain ⟨p, c, hv⟩ := ownsRow_shape h1
   injection hv
  by_cases hi : i < N
  ·obtain ⟨g, cap, pa, ca, hv, _, hA, e1, e2, e3, e4, e5, e6⟩ := h.out.get i (by have := hN.out; omega)
   obtain rfl : pv = some ⟨g, 0, none⟩ := by injection hv
   have hgi : gs[i]? = some (gs[i]'(by have := hN.out; omega)) := List.getElem?_eq_getElem _
   generalize gs[i]'(by have := hN.out; omega) = T0 at *
   obtain ⟨kind, sp, loc, ats, txt, pos⟩ := T0
   dsimp only at hA e1 e2 e3 e4 e5 e6
   have hsum := accG_sum gs i
   have hacc := accG_succ hgi
   have htz : txt.size <= txtSum gs := txtSum_mem (u := ⟨kind, sp, loc, ats, txt, pos⟩) (List.mem_of_getElem? hgi)
   obtain ⟨M, hM⟩ : ∃ M, M = ats.length := ⟨_, rfl⟩
   have hAw : AttrG w (fun k => k < w.heap.size) (.slice pa (M : Nat) ca) ats := by rw [hM]; exact hA.keep (Fr.refl (fun _ => False) w) (fun k hk _ => ⟨fun h => h, hk⟩)
   rw [<- hM] at e4
   replace e1 := hS.old.cell e1
   replace e2 := hS.old.cell e2
   replace e3 := hS.old.cell e3
   replace e4 := hS.old.cell e4
   replace e5 := hS.old.cell e5
   replace e6 := hS.old.cell e6
   have hi2 : (i : Int) < (N : Int) := by omega
   have hI : IntKind.i64.wrap ((i : Int) + 1) = ((i + 1 : Nat) : Int) := by rw [IntWalk.i64_in _ (by omega)]; omega
   obtain ⟨R, hR⟩ : ∃ R, R = W1.heap.size := ⟨_, rfl⟩
   obtain ⟨W2, hW2⟩ : ∃ W2, W2 = W1.alloc (.cells #[.int .i64 kind, .string sp, .string loc, .slice pa (M : Nat) ca, .string txt, .int .i64 pos] 28) := ⟨_, rfl⟩
   have hb : Blk W2 R #[.int .i64 kind, .string sp, .string loc, .slice pa (M : Nat) ca, .string txt, .int .i64 pos] 28 := by rw [hW2, hR]; exact Blk.new W1 _ _
   have hS2 : MrgS w gs i (.slice po (m : Nat) co) W2 := hS.of_old (by rw [hW2]; exact (Fr.refl _ W1).alloc _)
   have hgR : ∀ k, (Value.slice po (m : Nat) co).ownBlock = some k -> k < R := fun k hk => by
    obtain ⟨cs, h1, _⟩ := hS.ex
    rw [hR]; exact ownsRow_lt h1 hk
   have y0 : W2.cell? ⟨R, 0, none⟩ = some (.int .i64 kind) := by rw [hb.cell]; rfl
   have y1 : W2.cell? ⟨R, 1, none⟩ = some (.string sp) := by rw [hb.cell]; rfl
   have y2 : W2.cell? ⟨R, 2, none⟩ = some (.string loc) := by rw [hb.cell]; rfl
   have y3 : W2.cell? ⟨R, 3, none⟩ = some (.slice pa (M : Nat) ca) := by rw [hb.cell]; rfl
   have y4 : W2.cell? ⟨R, 4, none⟩ = some (.string txt) := by rw [hb.cell]; rfl
   have y5 : W2.cell? ⟨R, 5, none⟩ = some (.int .i64 pos) := by rw [hb.cell]; rfl
   have hml : m <= 300000 := by omega
   have hsz : txtSum (accG gs i) + txt.size <= 200000000 := by omega
   obtain ⟨cs, hrow2, hT2⟩ := hS2.ex
   rw [<- hm] at hrow2
   have happ : ∀ (w12 : World) (g' c' : Nat), accG gs (i + 1) = accG gs i ++ [⟨kind, sp, loc, ats, txt, pos⟩] -> w12.ownsRow 0 28 6 (.slice (some ⟨g', 0, none⟩) (m + 1 : Nat) c') (m + 1) (cs ++ [.int .i64 kind, .string sp, .string loc, .slice pa (M : Nat) ca, .string txt, .int .i64 pos]) -> Fr (fun x => (Value.slice po (m : Nat) co).ownBlock = some x) W2 w12 -> ((Value.slice po (m : Nat) co).ownBlock = some g' \/ W2.heap.size <= g') -> MrgS w gs (i + 1) (.slice (some ⟨g', 0, none⟩) (m + 1 : Nat) c') w12 := fun w12 g' c' ea er ef en => by
    rw [hm] at er ⊢
    exact hS2.app hT2 ea hAw er ef en
   replace hM := zz hM
   replace hS := zz hS
   replace hS2 := zz hS2
   replace hA := zz hAw
   replace hik := zz hik
   replace hI := zz hI
   replace hrow2 := zz hrow2
   replace hT2 := zz hT2
   replace hm := zz hm
   replace hb := zz hb
   replace hgR := zz hgR
   replace happ := zz happ
   replace hacc := zz hacc
   clear hv hAw hgi hsum htz
   rcases addG_cases (accG gs i) ⟨kind, sp, loc, ats, txt, pos⟩ with ⟨k1, k2, k3⟩ | ⟨k1, k2, l0, u, k3, k4, k5⟩ | ⟨k1, k2⟩ | ⟨k1, k2, k3, k4⟩ | ⟨k1, k2, ⟨l0, u, k3, k4⟩, k5⟩
   ·dsimp only at k1 k2
    subst k1
    have z1 := toList_nil k2
    have z2 := List.isEmpty_iff.1 z1
    replace k2 := zz k2
    replace k3 := zz k3
    go_upto_region 5 with fail
    rw [<- hW2, <- hR]
    replace hW2 := zz hW2
    replace hR := zz hR
    clear e1 e2 e3 e4 e5 e6
    go_wp2
    go_roundg (gk - 1)
    case measure => have := hik.out; omega
    case rel => exact ⟨i + 1, po, m, co, rfl, rfl, by have := hik.out; omega, hS2.out.same (hacc.out.trans k3.out)⟩
   ·dsimp only at k1 k2
    subst k1
    have z1 := toList_ne (Nat.pos_of_ne_zero k2)
    have z2 : ¬ txt.toList = [] := fun e => by rw [e] at z1; exact absurd z1 (by decide)
    obtain ⟨b, hb0⟩ : ∃ b, Hid (b = l0.length) := ⟨_, zz rfl⟩
    have hmb : m = b + 1 := by rw [hm.out, k3, hb0.out]; simp
    obtain ⟨go, cap', hvo, _, hc⟩ := ownsRow_some hrow2.out (by omega)
    obtain rfl : po = some ⟨go, 0, none⟩ := by injection hvo
    have hT3 := hT2.out
    rw [k3] at hT3
    obtain ⟨av, -, x0, -, -, -, x4, x5⟩ := hT3.get b (by rw [hb0.out]; simp)
    have hgu : (l0 ++ [u])[b]'(by rw [hb0.out]; simp) = u := by simp [hb0.out]
    rw [hgu] at x0 x4 x5
    have q0 := hc _ _ x0
    have q4 := hc _ _ x4
    have q5 := hc _ _ x5
    have hu3 : u.kind = 3 := k4
    rw [hu3] at q0
    have hf4 := own_free hrow2.out (g := go) rfl
    have hadd : ∀ w1, (Op.stringOp .add u.txt txt).run Tryz.prog w1 = .ok (.string (u.txt ++ txt)) w1 := fun w1 => run_string_add_sum w1 _ _ (by have : u.txt.size <= txtSum (accG gs i) := txtSum_mem (by rw [k3]; simp); omega)
    have i1 : IntKind.i64.wrap ((m : Int) - 1) = (b : Int) := by rw [IntWalk.i64_in _ (by omega)]; omega
    have i2 : (0 : Int) < (m : Int) := by omega
    have i3 : (b : Int) < (m : Int) := by omega
    have hgoR : go < R := hgR.out go rfl
    have f4 := hf4 (b * 6 + 4)
    have f5 := hf4 (b * 6 + 5)
    replace k2 := zz k2
    replace k3 := zz k3
    replace k5 := zz k5
    replace hmb := zz hmb
    replace hf4 := zz hf4
    clear hvo hc hT3 x0 x4 x5 hgu hu3
    go_upto_region 5 with fail
    rw [<- hW2, <- hR]
    replace hW2 := zz hW2
    replace hR := zz hR
    clear e1 e2 e3 e4 e5 e6
    go_upto_region 9 with fail
    have hrl := hrow2.out
    have hdO : Old W2 W2.drew := (Fr.refl _ W2).drew
    have hrl2 := (World.ownsRow.stored (ownsRow_frame hrl hdO (fun _ _ h => h)) (b * 6 + 4) (.string (u.txt ++ txt))).1
    have hfr2 : Fr (fun x => x = go) W2 (W2.drew.setCell ⟨go, b * 6 + 4, none⟩ (.string (u.txt ++ txt))) := Fr.set (F := fun x => x = go) ((Fr.refl _ W2).drew) (Or.inl rfl) _ _
    replace hrl2 := zz hrl2
    replace hfr2 := zz hfr2
    clear hrl
    replace hdO := zz hdO
    go_cut [] from 45 to 55 (fun wx => Fr (fun x => x = go) W2 wx /\ wx.ownsRow 0 28 6 (.slice (some ⟨go, 0, none⟩) (m : Nat) co) m (cs.set (b * 6 + 4) (.string (u.txt ++ txt))))
    case first =>
     go_region_law (fail)
     all_goals go_wp2_with fail
     all_goals go_meet
     all_goals exact ⟨hfr2.out, hrl2.out⟩
    case rest =>
     obtain ⟨hF3, hrow3⟩ := hcut
     have p5 : wc.cell? ⟨R, 5, none⟩ = some (.int .i64 pos) := by rw [(hb.out.keep hF3 (fun e => by have h : R = go := e; omega)).cell]; rfl
     obtain ⟨go', cap3, hvo, _, hc⟩ := ownsRow_some hrow3 (by have := hmb.out; omega)
     obtain rfl : go = go' := by injection hvo with e1; injection e1 with e1; injection e1
     have hlen5 : ∃ x, (cs.set (b * 6 + 4) (.string (u.txt ++ txt)))[b * 6 + 5]? = some x := by
      have := hrow3.1
      have h6 : b * 6 + 5 < (cs.set (b * 6 + 4) (.string (u.txt ++ txt))).length := by rw [this]; have := hmb.out; omega
      exact ⟨_, List.getElem?_eq_getElem h6⟩
     obtain ⟨x5, hx5⟩ := hlen5
     have q5' := hc _ _ hx5
     have f5' := own_free hrow3 (g := go) rfl (b * 6 + 5)
     have hrow4 := (World.ownsRow.stored hrow3 (b * 6 + 5) (.int .i64 pos)).1
     have hF4 : Fr (fun x => x = go) W2 (wc.setCell ⟨go, b * 6 + 5, none⟩ (.int .i64 pos)) := Fr.set (F := fun x => x = go) hF3 (Or.inl rfl) _ _
     have hS4 : MrgS w gs (i + 1) (.slice (some ⟨go, 0, none⟩) (m : Nat) co) (wc.setCell ⟨go, b * 6 + 5, none⟩ (.int .i64 pos)) := by
      have eb := hb0.out
      subst eb
      have em := hmb.out
      subst em
      exact hS2.out.last (t := ⟨3, sp, loc, ats, txt, pos⟩) k3.out (hacc.out.trans k5.out) hT2.out hrow4 hF4
     replace hS4 := zz hS4
     replace hrow4 := zz hrow4
     replace hF4 := zz hF4
     replace hrow3 := zz hrow3
     replace hF3 := zz hF3
     clear hvo hc hx5 q0 q4 q5 f4 f5 y0 y1 y2 y3 y4 y5 hrl2 hfr2
     go_wp2
     go_roundg (gk - 1)
     case measure => have := hik.out; omega
     case rel => exact ⟨i + 1, _, m, co, rfl, rfl, by have := hik.out; omega, hS4.out⟩
   ·dsimp only at k1
    have h3 : (kind == 3) = false := by rw [beq_eq_false_iff_ne]; exact k1
    have kk := zz k2
    replace k1 := zz k1
    clear k2
    go_upto_region 5 with fail
    rw [<- hW2, <- hR]
    replace hW2 := zz hW2
    replace hR := zz hR
    clear e1 e2 e3 e4 e5 e6
    go_wp2_with (at_builtin; refine wpList_append rfl _ _ 22 rfl 28 i0 _ 6 88 Tryz.underlying22 hi0 hz0 hz1 hz2 rfl (by decide) _ m cs (by rfl) (ownsRow_frame (F := fun _ => False) hrow2.out ((Fr.refl _ W2).alloc _) (fun _ _ h => h)) _ 1 1 [.int .i64 kind, .string sp, .string loc, .slice pa (M : Nat) ca, .string txt, .int .i64 pos] (by rfl) (by rfl) (by decide) (news_alloc _ [.int .i64 kind, .string sp, .string loc, .slice pa (M : Nat) ca, .string txt, .int .i64 pos] 28) (by intro u hu; simp at hu; rcases hu with rfl | rfl | rfl | rfl | rfl | rfl <;> rfl) (by unfold maxLen; omega) (by omega) ?_; intro g' c' w12 hrow' hgrow hnb; have f12 := ((Fr.refl (fun x => (Value.slice po (m : Nat) co).ownBlock = some x) W2).alloc _).grown hgrow (fun k hk => Or.inl hk); replace hrow' := zz hrow'; replace hnb := zz hnb; replace f12 := zz f12; clear hgrow)
    go_roundg (gk - 1)
    case measure => have := hik.out; omega
    case rel => exact ⟨i + 1, _, m + 1, c', rfl, rfl, by have := hik.out; omega, happ.out w12 g' c' (hacc.out.trans kk.out) hrow'.out f12.out (hnb.out.imp id (fun h => by simp at h; omega))⟩
   ·dsimp only at k1 k2
    subst k1
    have z1 := toList_ne (Nat.pos_of_ne_zero k2)
    have z2 : ¬ txt.toList = [] := fun e => by rw [e] at z1; exact absurd z1 (by decide)
    have hm0 : m = 0 := by rw [hm.out, k3]; rfl
    subst hm0
    have kk := zz k4
    replace k2 := zz k2
    replace k3 := zz k3
    clear k4
    go_upto_region 5 with fail
    rw [<- hW2, <- hR]
    replace hW2 := zz hW2
    replace hR := zz hR
    clear e1 e2 e3 e4 e5 e6
    go_wp2_with (at_builtin; refine wpList_append rfl _ _ 22 rfl 28 i0 _ 6 88 Tryz.underlying22 hi0 hz0 hz1 hz2 rfl (by decide) _ 0 cs (by rfl) (ownsRow_frame (F := fun _ => False) hrow2.out ((Fr.refl _ W2).alloc _) (fun _ _ h => h)) _ 1 1 [.int .i64 3, .string sp, .string loc, .slice pa (M : Nat) ca, .string txt, .int .i64 pos] (by rfl) (by rfl) (by decide) (news_alloc _ [.int .i64 3, .string sp, .string loc, .slice pa (M : Nat) ca, .string txt, .int .i64 pos] 28) (by intro u hu; simp at hu; rcases hu with rfl | rfl | rfl | rfl | rfl | rfl <;> rfl) (by unfold maxLen; omega) (by omega) ?_; intro g' c' w12 hrow' hgrow hnb; have f12 := ((Fr.refl (fun x => (Value.slice po (0 : Nat) co).ownBlock = some x) W2).alloc _).grown hgrow (fun k hk => Or.inl hk); replace hrow' := zz hrow'; replace hnb := zz hnb; replace f12 := zz f12; clear hgrow)
    go_roundg (gk - 1)
    case measure => have := hik.out; omega
    case rel => exact ⟨i + 1, _, 0 + 1, c', rfl, rfl, by have := hik.out; omega, happ.out w12 g' c' (hacc.out.trans kk.out) hrow'.out f12.out (hnb.out.imp id (fun h => by simp at h; omega))⟩
   ·dsimp only at k1 k2
    subst k1
    have z1 := toList_ne (Nat.pos_of_ne_zero k2)
    have z2 : ¬ txt.toList = [] := fun e => by rw [e] at z1; exact absurd z1 (by decide)
    obtain ⟨b, hb0⟩ : ∃ b, Hid (b = l0.length) := ⟨_, zz rfl⟩
    have hmb : m = b + 1 := by rw [hm.out, k3, hb0.out]; simp
    obtain ⟨go, cap', hvo, _, hc⟩ := ownsRow_some hrow2.out (by omega)
    obtain rfl : po = some ⟨go, 0, none⟩ := by injection hvo
    have hT3 := hT2.out
    rw [k3] at hT3
    obtain ⟨av, -, x0, -, -, -, x4, x5⟩ := hT3.get b (by rw [hb0.out]; simp)
    have hgu : (l0 ++ [u])[b]'(by rw [hb0.out]; simp) = u := by simp [hb0.out]
    rw [hgu] at x0
    have q0 := hc _ _ x0
    have hu3 : (u.kind == 3) = false := by rw [beq_eq_false_iff_ne]; exact k4
    generalize u.kind = uk at *
    have i1 : IntKind.i64.wrap ((m : Int) - 1) = (b : Int) := by rw [IntWalk.i64_in _ (by omega)]; omega
    have i2 : (0 : Int) < (m : Int) := by omega
    have i3 : (b : Int) < (m : Int) := by omega
    have kk := zz k5
    replace k2 := zz k2
    replace k3 := zz k3
    replace k4 := zz k4
    replace hmb := zz hmb
    clear hvo hc hT3 x0 x4 x5 hgu k5
    go_upto_region 5 with fail
    rw [<- hW2, <- hR]
    replace hW2 := zz hW2
    replace hR := zz hR
    clear e1 e2 e3 e4 e5 e6
    go_wp2_with (at_builtin; refine wpList_append rfl _ _ 22 rfl 28 i0 _ 6 88 Tryz.underlying22 hi0 hz0 hz1 hz2 rfl (by decide) _ m cs (by rfl) (ownsRow_frame (F := fun _ => False) hrow2.out ((Fr.refl _ W2).alloc _) (fun _ _ h => h)) _ 1 1 [.int .i64 3, .string sp, .string loc, .slice pa (M : Nat) ca, .string txt, .int .i64 pos] (by rfl) (by rfl) (by decide) (news_alloc _ [.int .i64 3, .string sp, .string loc, .slice pa (M : Nat) ca, .string txt, .int .i64 pos] 28) (by intro u hu; simp at hu; rcases hu with rfl | rfl | rfl | rfl | rfl | rfl <;> rfl) (by unfold maxLen; omega) (by omega) ?_; intro g' c' w12 hrow' hgrow hnb; have f12 := ((Fr.refl (fun x => (Value.slice (some ⟨go, 0, none⟩) (m : Nat) co).ownBlock = some x) W2).alloc _).grown hgrow (fun k hk => Or.inl hk); replace hrow' := zz hrow'; replace hnb := zz hnb; replace f12 := zz f12; clear hgrow)
    go_roundg (gk - 1)
    case measure => have := hik.out; omega
    case rel => exact ⟨i + 1, _, m + 1, c', rfl, rfl, by have := hik.out; omega, happ.out w12 g' c' (hacc.out.trans kk.out) hrow'.out f12.out (hnb.out.imp id (fun h => by simp at h; omega))⟩
  ·have hi2 : ¬ (i : Int) < (N : Int) := by omega
   have hiN : i = gs.length := by have := hN.out; omega
   replace hS := zz hS
   replace hm := zz hm
   replace hik := zz hik
   replace hiN := zz hiN
   go_wp2
   go_ret
   refine ⟨_, rfl, hS.out.old, ?_⟩
   obtain ⟨cs, h1, h2⟩ := hS.out.ex
   rw [hiN.out, accG_all] at h1 h2
   exact ⟨cs, h1, h2.keep (Fr.refl (fun _ => False) W1) (fun k _ hk => ⟨fun h => h, fun e => by have := hS.out.own k e; omega⟩)⟩
end
section
open Go.RowKit
noncomputable def reg12 : Code := ((Tryz.f12.body.bind (findR 7)).getD .skip)
def vals12 (l1 l2 ag1 ag2 : Value) (p1 p2 : Addr) (j : Nat) : Nat -> Option Value
 | 0 => some l1
 | 1 => some (.int .i64 j)
 | 2 => some (.pointer (some p1))
 | 3 => some ag1
 | 4 => some l2
 | 5 => some (.int .i64 j)
 | 6 => some (.pointer (some p2))
 | 7 => some ag2
 | 8 => some (.bool true)
 | 9 | 10 | 11 | 12 | 24 | 25 => some (.bool false)
 | _ => none
theorem reg12_do {g1 g2 c1 c2 N j : Nat} {w : World} {f : Act} {kind : Int} {sp loc txt : ByteArray} {av1 av2 : Value} {p1 p2 : Int} (hsz : f.tmps.size = 49)
  (f0 : f.tmps[0]? = some (.slice (some ⟨g1, 0, none⟩) (N : Nat) c1)) (f1 : f.tmps[1]? = some (.slice (some ⟨g2, 0, none⟩) (N : Nat) c2)) (f2 : f.tmps[2]? = some (.bool false)) (f7 : f.tmps[7]? = some (.int .i64 j)) (hj : j < N) (hN : N <= 1000000)
  (a0 : w.cell? ⟨g1, j * 6, none⟩ = some (.int .i64 kind)) (a1 : w.cell? ⟨g1, j * 6 + 1, none⟩ = some (.string sp)) (a2 : w.cell? ⟨g1, j * 6 + 2, none⟩ = some (.string loc)) (a3 : w.cell? ⟨g1, j * 6 + 3, none⟩ = some av1) (a4 : w.cell? ⟨g1, j * 6 + 4, none⟩ = some (.string txt)) (a5 : w.cell? ⟨g1, j * 6 + 5, none⟩ = some (.int .i64 p1))
  (b0 : w.cell? ⟨g2, j * 6, none⟩ = some (.int .i64 kind)) (b1 : w.cell? ⟨g2, j * 6 + 1, none⟩ = some (.string sp)) (b2 : w.cell? ⟨g2, j * 6 + 2, none⟩ = some (.string loc)) (b3 : w.cell? ⟨g2, j * 6 + 3, none⟩ = some av2) (b4 : w.cell? ⟨g2, j * 6 + 4, none⟩ = some (.string txt)) (b5 : w.cell? ⟨g2, j * 6 + 5, none⟩ = some (.int .i64 p2))
  (hal : ∀ w1, Old w w1 -> Calls Tryz.prog 41 #[.agg #[.int .i64 kind, .string sp, .string loc, av1, .string txt, .int .i64 p1], .agg #[.int .i64 kind, .string sp, .string loc, av2, .string txt, .int .i64 p2]] w1 fun e w' => e = .returned (.bool true) /\ Hid (Old w1 w'))
  {Q : Exit -> Act -> World -> Prop} (hQ : ∀ a w', Rest 22 48 f a -> a.tmps[47]? = some (.bool false) -> Old w w' -> Q .normal a w') : reg12.wp Tryz.prog Q f w := by
 conv => arg 2; whnf
 obtain ⟨vals, hvals⟩ : ∃ vals, vals = vals12 (.slice (some ⟨g1, 0, none⟩) (N : Nat) c1) (.slice (some ⟨g2, 0, none⟩) (N : Nat) c2) (.agg #[.int .i64 kind, .string sp, .string loc, av1, .string txt, .int .i64 p1]) (.agg #[.int .i64 kind, .string sp, .string loc, av2, .string txt, .int .i64 p2]) ⟨g1, j * 6, none⟩ ⟨g2, j * 6, none⟩ j := ⟨_, rfl⟩
 have hlt : ∀ i v, vals i = some v -> i < 26 := fun i v h => by
  rcases Nat.lt_or_ge i 26 with h1 | h1
  ·exact h1
  ·obtain ⟨k, rfl⟩ : ∃ k, i = k + 26 := ⟨i - 26, by omega⟩
   rw [hvals] at h; simp [vals12] at h
 refine wp_region_inv (SV 22 48 vals w f) (by kernel_rfl) (by kernel_rfl) (fun L L' a w e h => h.congr 26 hlt e) ?_ ?_ ?_
 ·exact ⟨Rest.refl _ _ _, (Fr.refl _ w).drew, fun i v _ h => by cases h⟩
 ·refine ⟨?_, ?_, ?_, ?_, ?_, ?_, ?_, ?_, ?_, ?_, ?_, ?_, ?_, ?_, ?_, ?_, ?_, ?_, ?_, ?_, ?_, ?_, ?_, ?_, ?_, ?_, trivial⟩
  all_goals intro L a w1 hk hd hS K hK
  all_goals have s0 : a.tmps[0]? = some (.slice (some ⟨g1, 0, none⟩) (N : Nat) c1) := (hS.rest.slot 0 (.inl (by decide))).trans f0
  all_goals have s1 : a.tmps[1]? = some (.slice (some ⟨g2, 0, none⟩) (N : Nat) c2) := (hS.rest.slot 1 (.inl (by decide))).trans f1
  all_goals have s2 : a.tmps[2]? = some (.bool false) := (hS.rest.slot 2 (.inl (by decide))).trans f2
  all_goals have s7 : a.tmps[7]? = some (.int .i64 j) := (hS.rest.slot 7 (.inl (by decide))).trans f7
  ·
   refine op_value rfl (w' := w1) ?_ (hK _ _ (hS.put 0 _ (by rw [hvals]; intro u h; exact Option.some.inj h) (by decide) (by omega) (Fr.refl _ _)))
   clear hK hS hd hal hQ
   go_simp
  ·
   refine op_value rfl (w' := w1) ?_ (hK _ _ (hS.put 1 _ (by rw [hvals]; intro u h; exact Option.some.inj h) (by decide) (by omega) (Fr.refl _ _)))
   clear hK hS hd hal hQ
   go_simp
  ·
   have x0 := hS.val 0 _ (by rw [hvals]; rfl) (hd 0 (by decide))
   rw [show 22 + 0 = 22 from rfl] at x0
   have x1 := hS.val 1 _ (by rw [hvals]; rfl) (hd 1 (by decide))
   rw [show 22 + 1 = 23 from rfl] at x1
   have i1 : (j : Int) < (N : Int) := by omega
   refine op_value rfl (w' := w1) ?_ (hK _ _ (hS.put 2 _ (by rw [hvals]; intro u h; exact Option.some.inj h) (by decide) (by omega) (Fr.refl _ _)))
   clear hK hS hd hal hQ
   go_simp
  ·
   have x2 := hS.val 2 _ (by rw [hvals]; rfl) (hd 2 (by decide))
   rw [show 22 + 2 = 24 from rfl] at x2
   have c0 := hS.old.cell a0
   have c1 := hS.old.cell a1
   have c2 := hS.old.cell a2
   have c3 := hS.old.cell a3
   have c4 := hS.old.cell a4
   have c5 := hS.old.cell a5
   refine op_value rfl (w' := w1) ?_ (hK _ _ (hS.put 3 _ (by rw [hvals]; intro u h; exact Option.some.inj h) (by decide) (by omega) (Fr.refl _ _)))
   clear hK hS hd hal hQ
   go_simp
  ·
   refine op_value rfl (w' := w1) ?_ (hK _ _ (hS.put 4 _ (by rw [hvals]; intro u h; exact Option.some.inj h) (by decide) (by omega) (Fr.refl _ _)))
   clear hK hS hd hal hQ
   go_simp
  ·
   refine op_value rfl (w' := w1) ?_ (hK _ _ (hS.put 5 _ (by rw [hvals]; intro u h; exact Option.some.inj h) (by decide) (by omega) (Fr.refl _ _)))
   clear hK hS hd hal hQ
   go_simp
  ·
   have x4 := hS.val 4 _ (by rw [hvals]; rfl) (hd 4 (by decide))
   rw [show 22 + 4 = 26 from rfl] at x4
   have x5 := hS.val 5 _ (by rw [hvals]; rfl) (hd 5 (by decide))
   rw [show 22 + 5 = 27 from rfl] at x5
   have i1 : (j : Int) < (N : Int) := by omega
   refine op_value rfl (w' := w1) ?_ (hK _ _ (hS.put 6 _ (by rw [hvals]; intro u h; exact Option.some.inj h) (by decide) (by omega) (Fr.refl _ _)))
   clear hK hS hd hal hQ
   go_simp
  ·
   have x6 := hS.val 6 _ (by rw [hvals]; rfl) (hd 6 (by decide))
   rw [show 22 + 6 = 28 from rfl] at x6
   have c0 := hS.old.cell b0
   have c1 := hS.old.cell b1
   have c2 := hS.old.cell b2
   have c3 := hS.old.cell b3
   have c4 := hS.old.cell b4
   have c5 := hS.old.cell b5
   refine op_value rfl (w' := w1) ?_ (hK _ _ (hS.put 7 _ (by rw [hvals]; intro u h; exact Option.some.inj h) (by decide) (by omega) (Fr.refl _ _)))
   clear hK hS hd hal hQ
   go_simp
  ·
   have x3 := hS.val 3 _ (by rw [hvals]; rfl) (hd 3 (by decide))
   rw [show 22 + 3 = 25 from rfl] at x3
   have x7 := hS.val 7 _ (by rw [hvals]; rfl) (hd 7 (by decide))
   rw [show 22 + 7 = 29 from rfl] at x7
   have hc := hal w1 hS.old
   refine op_call rfl (R := fun e w' => e = .returned (.bool true) /\ Hid (Old w1 w')) (fn := 41) (args := #[.agg #[.int .i64 kind, .string sp, .string loc, av1, .string txt, .int .i64 p1], .agg #[.int .i64 kind, .string sp, .string loc, av2, .string txt, .int .i64 p2]]) ?_ hc (fun e w' h => ⟨_, h.1, hK _ _ (hS.put 8 _ (by rw [hvals]; intro u h; exact Option.some.inj h) (by decide) (by omega) h.2.out)⟩)
   clear hK hS hd hal hc hQ
   go_simp
  ·
   have x8 := hS.val 8 _ (by rw [hvals]; rfl) (hd 8 (by decide))
   rw [show 22 + 8 = 30 from rfl] at x8
   refine op_value rfl (w' := w1) ?_ (hK _ _ (hS.put 9 _ (by rw [hvals]; intro u h; exact Option.some.inj h) (by decide) (by omega) (Fr.refl _ _)))
   clear hK hS hd hal hQ
   go_simp
  ·
   have x9 := hS.val 9 _ (by rw [hvals]; rfl) (hd 9 (by decide))
   rw [show 22 + 9 = 31 from rfl] at x9
   refine op_value rfl (w' := w1) ?_ (hK _ _ (hS.put 10 _ (by rw [hvals]; intro u h; exact Option.some.inj h) (by decide) (by omega) (Fr.refl _ _)))
   clear hK hS hd hal hQ
   go_simp
  ·
   have x10 := hS.val 10 _ (by rw [hvals]; rfl) (hd 10 (by decide))
   rw [show 22 + 10 = 32 from rfl] at x10
   refine op_yes (by simp only [Region.wanted, yielded]; simp [x10]) (w' := w1) ?_ (hK _ _ (hS.put 11 _ (by rw [hvals]; intro u h; exact Option.some.inj h) (by decide) (by omega) (Fr.refl _ _)))
   clear hK hS hd hal hQ
   go_simp
  ·
   have x11 := hS.val 11 _ (by rw [hvals]; rfl) (hd 11 (by decide))
   rw [show 22 + 11 = 33 from rfl] at x11
   have x10 := hS.val 10 _ (by rw [hvals]; rfl) (hd 10 (by decide))
   rw [show 22 + 10 = 32 from rfl] at x10
   refine op_yes (by simp only [Region.wanted, yielded]; simp [x10]) (w' := w1) ?_ (hK _ _ (hS.put 12 _ (by rw [hvals]; intro u h; exact Option.some.inj h) (by decide) (by omega) (Fr.refl _ _)))
   clear hK hS hd hal hQ
   go_simp
  ·
   have x12 := hS.val 12 _ (by rw [hvals]; rfl) (hd 12 (by decide))
   rw [show 22 + 12 = 34 from rfl] at x12
   refine op_not (by simp only [Region.wanted, yielded]; simp [x12]) (hK _ _ (hS.put 13 undef (by rw [hvals]; intro u h; cases h) (by decide) (by omega) (Fr.refl _ _)))
  ·
   have x12 := hS.val 12 _ (by rw [hvals]; rfl) (hd 12 (by decide))
   rw [show 22 + 12 = 34 from rfl] at x12
   refine op_not (by simp only [Region.wanted, yielded]; simp [x12]) (hK _ _ (hS.put 14 undef (by rw [hvals]; intro u h; cases h) (by decide) (by omega) (Fr.refl _ _)))
  ·
   have x12 := hS.val 12 _ (by rw [hvals]; rfl) (hd 12 (by decide))
   rw [show 22 + 12 = 34 from rfl] at x12
   refine op_not (by simp only [Region.wanted, yielded]; simp [x12]) (hK _ _ (hS.put 15 undef (by rw [hvals]; intro u h; cases h) (by decide) (by omega) (Fr.refl _ _)))
  ·
   have x12 := hS.val 12 _ (by rw [hvals]; rfl) (hd 12 (by decide))
   rw [show 22 + 12 = 34 from rfl] at x12
   refine op_not (by simp only [Region.wanted, yielded]; simp [x12]) (hK _ _ (hS.put 16 undef (by rw [hvals]; intro u h; cases h) (by decide) (by omega) (Fr.refl _ _)))
  ·
   have x12 := hS.val 12 _ (by rw [hvals]; rfl) (hd 12 (by decide))
   rw [show 22 + 12 = 34 from rfl] at x12
   refine op_not (by simp only [Region.wanted, yielded]; simp [x12]) (hK _ _ (hS.put 17 undef (by rw [hvals]; intro u h; cases h) (by decide) (by omega) (Fr.refl _ _)))
  ·
   have x12 := hS.val 12 _ (by rw [hvals]; rfl) (hd 12 (by decide))
   rw [show 22 + 12 = 34 from rfl] at x12
   refine op_not (by simp only [Region.wanted, yielded]; simp [x12]) (hK _ _ (hS.put 18 undef (by rw [hvals]; intro u h; cases h) (by decide) (by omega) (Fr.refl _ _)))
  ·
   have x12 := hS.val 12 _ (by rw [hvals]; rfl) (hd 12 (by decide))
   rw [show 22 + 12 = 34 from rfl] at x12
   refine op_not (by simp only [Region.wanted, yielded]; simp [x12]) (hK _ _ (hS.put 19 undef (by rw [hvals]; intro u h; cases h) (by decide) (by omega) (Fr.refl _ _)))
  ·
   have x12 := hS.val 12 _ (by rw [hvals]; rfl) (hd 12 (by decide))
   rw [show 22 + 12 = 34 from rfl] at x12
   refine op_not (by simp only [Region.wanted, yielded]; simp [x12]) (hK _ _ (hS.put 20 undef (by rw [hvals]; intro u h; cases h) (by decide) (by omega) (Fr.refl _ _)))
  ·
   have x12 := hS.val 12 _ (by rw [hvals]; rfl) (hd 12 (by decide))
   rw [show 22 + 12 = 34 from rfl] at x12
   refine op_not (by simp only [Region.wanted, yielded]; simp [x12]) (hK _ _ (hS.put 21 undef (by rw [hvals]; intro u h; cases h) (by decide) (by omega) (Fr.refl _ _)))
  ·
   have x12 := hS.val 12 _ (by rw [hvals]; rfl) (hd 12 (by decide))
   rw [show 22 + 12 = 34 from rfl] at x12
   refine op_not (by simp only [Region.wanted, yielded]; simp [x12]) (hK _ _ (hS.put 22 undef (by rw [hvals]; intro u h; cases h) (by decide) (by omega) (Fr.refl _ _)))
  ·
   have x12 := hS.val 12 _ (by rw [hvals]; rfl) (hd 12 (by decide))
   rw [show 22 + 12 = 34 from rfl] at x12
   refine op_not (by simp only [Region.wanted, yielded]; simp [x12]) (hK _ _ (hS.put 23 undef (by rw [hvals]; intro u h; cases h) (by decide) (by omega) (Fr.refl _ _)))
  ·
   have x10 := hS.val 10 _ (by rw [hvals]; rfl) (hd 10 (by decide))
   rw [show 22 + 10 = 32 from rfl] at x10
   have x12 := hS.val 12 _ (by rw [hvals]; rfl) (hd 12 (by decide))
   rw [show 22 + 12 = 34 from rfl] at x12
   refine op_yes (by simp only [Region.wanted, yielded]; simp [x10]) (w' := w1) ?_ (hK _ _ (hS.put 24 _ (by rw [hvals]; intro u h; exact Option.some.inj h) (by decide) (by omega) (Fr.refl _ _)))
   clear hK hS hd hal hQ
   go_simp
  ·
   have x10 := hS.val 10 _ (by rw [hvals]; rfl) (hd 10 (by decide))
   rw [show 22 + 10 = 32 from rfl] at x10
   have x24 := hS.val 24 _ (by rw [hvals]; rfl) (hd 24 (by decide))
   rw [show 22 + 24 = 46 from rfl] at x24
   refine op_value rfl (w' := w1) ?_ (hK _ _ (hS.put 25 _ (by rw [hvals]; intro u h; exact Option.some.inj h) (by decide) (by omega) (Fr.refl _ _)))
   clear hK hS hd hal hQ
   go_simp
 ·intro a w' h
  exact hQ a w' h.rest (h.val 25 _ (by rw [hvals]; rfl) rfl) h.old
end
end Go.Proofs.YtepbbahdhhjibaaGreatDoor
