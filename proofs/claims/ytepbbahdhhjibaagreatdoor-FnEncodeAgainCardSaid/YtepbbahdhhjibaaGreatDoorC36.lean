/- own text -/
import Derived.Deep.CutRange
import Derived.Test.YtepbbahdhhjibaaGreatDoorC27
import Derived.Test.YtepbbahdhhjibaaGreatDoorC35
namespace Go.Proofs.YtepbbahdhhjibaaGreatDoor
set_option linter.unusedSimpArgs false
set_option linter.unusedVariables false
set_option maxHeartbeats 8000000
set_option maxRecDepth 100000
section
open Go.RowKit
structure GT where
 kind : Int
 sp : ByteArray
 loc : ByteArray
 ats : List (ByteArray × ByteArray × ByteArray)
 txt : ByteArray
 pos : Int
def atsC (l : List (ByteArray × ByteArray × ByteArray)) : List Value := l.flatMap fun x => [.string x.1, .string x.2.1, .string x.2.2]
structure AttrG (w : World) (A : Nat -> Prop) (av : Value) (ats : List (ByteArray × ByteArray × ByteArray)) : Prop where
 row : w.ownsRow 0 30 3 av ats.length (atsC ats)
 own : ∀ k, av.ownBlock = some k -> A k
 len : ats.length <= 1000000
def gtCells (g : GT) (av : Value) : List Value := [.int .i64 g.kind, .string g.sp, .string g.loc, av, .string g.txt, .int .i64 g.pos]
def TokG (w : World) (A : Nat -> Prop) : List GT -> List Value -> Prop
 | [], cs => cs = []
 | g :: gs, cs => ∃ av rest, cs = gtCells g av ++ rest /\ AttrG w A av g.ats /\ TokG w A gs rest
def prC (l : List (ByteArray × ByteArray)) : List Value := l.flatMap fun x => [.string x.1, .string x.2]
structure PairG (w : World) (A : Nat -> Prop) (bv : Value) (l : List (ByteArray × ByteArray)) : Prop where
 row : w.ownsRow 0 275 2 bv l.length (prC l)
 own : ∀ k, bv.ownBlock = some k -> A k
 len : l.length <= 1000000
def BndG (w : World) (A : Nat -> Prop) : List (List (ByteArray × ByteArray)) -> List Value -> Prop
 | [], cs => cs = []
 | l :: ls, cs => ∃ bv rest, cs = bv :: rest /\ PairG w A bv l /\ BndG w A ls rest
theorem AttrG.keep {F : Nat -> Prop} {w w' : World} {A B : Nat -> Prop} {av : Value} {l : List (ByteArray × ByteArray × ByteArray)} (h : AttrG w A av l) (f : Fr F w w') (hA : ∀ k, k < w.heap.size -> A k -> ¬ F k /\ B k) : AttrG w' B av l :=
 ⟨ownsRow_frame h.row f (fun k hk => (hA k (ownsRow_lt h.row hk) (h.own k hk)).1), fun k hk => (hA k (ownsRow_lt h.row hk) (h.own k hk)).2, h.len⟩
theorem PairG.keep {F : Nat -> Prop} {w w' : World} {A B : Nat -> Prop} {av : Value} {l : List (ByteArray × ByteArray)} (h : PairG w A av l) (f : Fr F w w') (hA : ∀ k, k < w.heap.size -> A k -> ¬ F k /\ B k) : PairG w' B av l :=
 ⟨ownsRow_frame h.row f (fun k hk => (hA k (ownsRow_lt h.row hk) (h.own k hk)).1), fun k hk => (hA k (ownsRow_lt h.row hk) (h.own k hk)).2, h.len⟩
theorem TokG.keep {F : Nat -> Prop} {w w' : World} {A B : Nat -> Prop} (f : Fr F w w') (hA : ∀ k, k < w.heap.size -> A k -> ¬ F k /\ B k) : ∀ {gs : List GT} {cs : List Value}, TokG w A gs cs -> TokG w' B gs cs := by
 intro gs
 induction gs with
 | nil => intro cs h; exact h
 | cons g gs ih =>
  rintro cs ⟨av, rest, h1, h2, h3⟩
  exact ⟨av, rest, h1, h2.keep f hA, ih h3⟩
theorem BndG.keep {F : Nat -> Prop} {w w' : World} {A B : Nat -> Prop} (f : Fr F w w') (hA : ∀ k, k < w.heap.size -> A k -> ¬ F k /\ B k) : ∀ {gs : List (List (ByteArray × ByteArray))} {cs : List Value}, BndG w A gs cs -> BndG w' B gs cs := by
 intro gs
 induction gs with
 | nil => intro cs h; exact h
 | cons g gs ih =>
  rintro cs ⟨av, rest, h1, h2, h3⟩
  exact ⟨av, rest, h1, h2.keep f hA, ih h3⟩
theorem TokG.app {w : World} {A : Nat -> Prop} {g : GT} {av : Value} (ha : AttrG w A av g.ats) : ∀ {gs : List GT} {cs : List Value}, TokG w A gs cs -> TokG w A (gs ++ [g]) (cs ++ gtCells g av) := by
 intro gs
 induction gs with
 | nil =>
  intro cs h
  have h' : cs = [] := h
  subst h'
  exact ⟨av, [], by simp, ha, rfl⟩
 | cons t gs ih =>
  rintro cs ⟨av', rest, h1, h2, h3⟩
  exact ⟨av', rest ++ gtCells g av, by rw [h1, List.append_assoc], h2, ih h3⟩
theorem BndG.app {w : World} {A : Nat -> Prop} {l : List (ByteArray × ByteArray)} {bv : Value} (ha : PairG w A bv l) : ∀ {gs : List (List (ByteArray × ByteArray))} {cs : List Value}, BndG w A gs cs -> BndG w A (gs ++ [l]) (cs ++ [bv]) := by
 intro gs
 induction gs with
 | nil =>
  intro cs h
  have h' : cs = [] := h
  subst h'
  exact ⟨bv, [], by simp, ha, rfl⟩
 | cons t gs ih =>
  rintro cs ⟨av', rest, h1, h2, h3⟩
  exact ⟨av', rest ++ [bv], by rw [h1]; rfl, h2, ih h3⟩
theorem TokG.len {w : World} {A : Nat -> Prop} : ∀ {gs : List GT} {cs : List Value}, TokG w A gs cs -> cs.length = gs.length * 6 := by
 intro gs
 induction gs with
 | nil => intro cs h; have h' : cs = [] := h; subst h'; rfl
 | cons g gs ih =>
  rintro cs ⟨av, rest, rfl, h2, h3⟩
  rw [List.length_append, ih h3, List.length_cons]
  simp [gtCells]; omega
theorem BndG.len {w : World} {A : Nat -> Prop} : ∀ {gs : List (List (ByteArray × ByteArray))} {cs : List Value}, BndG w A gs cs -> cs.length = gs.length := by
 intro gs
 induction gs with
 | nil => intro cs h; have h' : cs = [] := h; subst h'; rfl
 | cons g gs ih =>
  rintro cs ⟨av, rest, rfl, h2, h3⟩
  rw [List.length_cons, ih h3, List.length_cons]
def SO (P : Nat) (q : PV) (x : Nat) : Prop := x = P \/ q.ov.ownBlock = some x \/ q.pv.ownBlock = some x \/ q.bv.ownBlock = some x
def SA (P : Nat) (q : PV) (x : Nat) : Prop := ¬ SO P q x
structure SQ (P : Nat) (s : ByteArray) (base : Nat) (w : World) (a : Nat) (q : PV) (vd : Int) (gs : List GT) (opn : List ByteArray) (bnd : List (List (ByteArray × ByteArray))) : Prop where
 blk : PB w P s a q vd
 out : ∃ cs, w.ownsRow 0 28 6 q.ov gs.length cs /\ TokG w (SA P q) gs cs
 opn : w.ownsRow 0 9 1 q.pv opn.length (opn.map .string)
 bnd : ∃ bs, w.ownsRow 0 84 1 q.bv bnd.length bs /\ BndG w (SA P q) bnd bs
 do_ : ∀ k, q.ov.ownBlock = some k -> k ≠ P /\ q.pv.ownBlock ≠ some k /\ q.bv.ownBlock ≠ some k
 dp : ∀ k, q.pv.ownBlock = some k -> k ≠ P /\ q.bv.ownBlock ≠ some k
 db : ∀ k, q.bv.ownBlock = some k -> k ≠ P
 lo : ∀ x, SO P q x -> base <= x
section
variable {P : Nat} {s : ByteArray} {base : Nat} {w w' : World} {a a' : Nat} {q : PV} {vd vd' : Int} {gs : List GT} {opn : List ByteArray} {bnd : List (List (ByteArray × ByteArray))}
theorem SQ.lt (h : SQ P s base w a q vd gs opn bnd) : ∀ x, SO P q x -> x < w.heap.size := by
 obtain ⟨cs, h1, _⟩ := h.out
 obtain ⟨bs, h2, _⟩ := h.bnd
 rintro x (rfl | hx | hx | hx)
 ·exact h.blk.lt
 ·exact ownsRow_lt h1 hx
 ·exact ownsRow_lt h.opn hx
 ·exact ownsRow_lt h2 hx
theorem SQ.move (h : SQ P s base w a q vd gs opn bnd) (f : FrP P w w') (b : PB w' P s a' q vd') : SQ P s base w' a' q vd' gs opn bnd := by
 obtain ⟨cs, h1, h2⟩ := h.out
 obtain ⟨bs, h3, h4⟩ := h.bnd
 have hA : ∀ k, k < w.heap.size -> SA P q k -> ¬ k = P /\ SA P q k := fun k _ hk => ⟨fun e => hk (.inl e), hk⟩
 exact ⟨b, ⟨cs, ownsRow_frame h1 f (fun k hk => (h.do_ k hk).1), h2.keep f hA⟩, ownsRow_frame h.opn f (fun k hk => (h.dp k hk).1), ⟨bs, ownsRow_frame h3 f (fun k hk => h.db k hk), h4.keep f hA⟩, h.do_, h.dp, h.db, h.lo⟩
theorem SQ.sp (h : SQ P s base w a q vd gs opn bnd) {w1 : World} (k : SP P s q vd' w a' w1) : SQ P s base w1 a' q vd' gs opn bnd := h.move k.2 k.1
theorem SQ.old (h : SQ P s base w a q vd gs opn bnd) (f : Old w w') : SQ P s base w' a q vd gs opn bnd := h.move (Fr.of_old f) (h.blk.keep f (fun h => h))
end
theorem AttrG.nil (w : World) (A : Nat -> Prop) : AttrG w A (.slice none 0 0) [] := ⟨World.ownsRow_nil _ _ _ _, fun k hk => (by cases hk), Nat.zero_le _⟩
theorem info28 : (Tryz.prog.info? 28).map (fun i => (i.zero, i.size, i.bytes)) = some (some (.agg #[.int .i64 0, .string ⟨#[]⟩, .string ⟨#[]⟩, .slice none 0 0, .string ⟨#[]⟩, .int .i64 0]), 6, 88) := by kernel_rfl
structure GoP (P : Nat) (q : PV) (w : World) (q' : PV) (w' : World) : Prop where
 fr : Fr (SO P q) w w'
 nw : ∀ x, SO P q' x -> SO P q x \/ w.heap.size <= x
theorem GoP.of {P : Nat} {q : PV} {w w' : World} (f : FrP P w w') : GoP P q w q w' := ⟨f.mono (fun x hx => .inl (.inl hx)), fun _ h => .inl h⟩
theorem GoP.tr {P : Nat} {q q1 q2 : PV} {w w1 w2 : World} (h : GoP P q w q1 w1) (k : GoP P q1 w1 q2 w2) : GoP P q w q2 w2 :=
 ⟨h.fr.trans k.fr (fun x hx => h.nw x hx), fun x hx => (k.nw x hx).elim (fun h1 => h.nw x h1) (fun h1 => .inr (Nat.le_trans h.fr.size h1))⟩
theorem add_do (P : Nat) (s : ByteArray) (base : Nat) (w : World) (a : Nat) (q : PV) (vd : Int) (gs : List GT) (opn : List ByteArray) (bnd : List (List (ByteArray × ByteArray))) (h : SQ P s base w a q vd gs opn bnd) (hn : gs.length <= 1000000) (hbase : base <= w.heap.size)
  (kind : Int) (sp loc : ByteArray) (av : Value) (ats : List (ByteArray × ByteArray × ByteArray)) (txt : ByteArray) (hav : AttrG w (SA P q) av ats) (p0 : Int) :
  Calls Tryz.prog 129 #[.pointer (some ⟨P, 0, none⟩), .agg #[.int .i64 kind, .string sp, .string loc, av, .string txt, .int .i64 p0]] w fun e w' => e = .returned (.bool true) /\ ∃ q', SQ P s base w' a q' vd (gs ++ [⟨kind, sp, loc, ats, txt, a⟩]) opn bnd /\ GoP P q w q' w' /\ q'.pv = q.pv /\ q'.bv = q.bv := by
 obtain ⟨i0, hi, hz0, hz1, hz2⟩ := info_parts info28
 obtain ⟨pa, na, ca, rfl⟩ : ∃ pa na ca, av = .slice pa na ca := by
  rcases hav.row.2 with ⟨h1, _⟩ | ⟨g, cap, cur, h1, _⟩ <;> exact ⟨_, _, _, h1⟩
 obtain ⟨cs, hrow, hTG⟩ := h.out
 have hPw := h.blk.lt
 obtain ⟨c0, c1, _, _, _, c5, _⟩ := h.blk.c
 obtain ⟨ov, hov⟩ : ∃ ov, ov = q.ov := ⟨_, rfl⟩
 rw [<- hov] at c5 hrow
 have hovP : ∀ k, ov.ownBlock = some k -> k ≠ P := fun k hk => (h.do_ k (by rw [<- hov]; exact hk)).1
 obtain ⟨W0, hW0⟩ : ∃ W0, W0 = w.alloc (.cells #[.int .i64 kind, .string sp, .string loc, .slice pa na ca, .string txt, .int .i64 a] 28) := ⟨_, rfl⟩
 replace h := zz h
 replace hov := zz hov
 replace hrow := zz hrow
 replace hTG := zz hTG
 replace hav := zz hav
 go_enter Tryz.func129, Tryz.ntmps129
 go_wp2
 rw [<- hW0]
 have hO0 : Old w W0 := by rw [hW0]; exact (Fr.refl _ w).alloc _
 have hb0 : Blk W0 w.heap.size #[.int .i64 kind, .string sp, .string loc, .slice pa na ca, .string txt, .int .i64 a] 28 := by rw [hW0]; exact Blk.new w _ _
 have hs0 : w.heap.size < W0.heap.size := hb0.lt
 have hB0 : Hid (PB W0 P s a q vd) := h.out.blk.keep hO0 (fun h => h)
 have hrow0 : Hid (W0.ownsRow 0 28 6 ov gs.length cs) := ownsRow_frame hrow.out hO0 (fun _ _ h => h)
 replace c5 := hO0.cell c5
 have f5 := hB0.out.fz 5
 have z0 : W0.cell? ⟨w.heap.size, 0, none⟩ = some (.int .i64 kind) := by rw [hb0.cell]; rfl
 have z1 : W0.cell? ⟨w.heap.size, 1, none⟩ = some (.string sp) := by rw [hb0.cell]; rfl
 have z2 : W0.cell? ⟨w.heap.size, 2, none⟩ = some (.string loc) := by rw [hb0.cell]; rfl
 have z3 : W0.cell? ⟨w.heap.size, 3, none⟩ = some (.slice pa na ca) := by rw [hb0.cell]; rfl
 have z4 : W0.cell? ⟨w.heap.size, 4, none⟩ = some (.string txt) := by rw [hb0.cell]; rfl
 have z5 : W0.cell? ⟨w.heap.size, 5, none⟩ = some (.int .i64 a) := by rw [hb0.cell]; rfl
 have hPow : ¬ (ov.ownBlock = some P) := fun e => hovP P e rfl
 have c5a : ∀ cs, (W0.alloc (.cells cs 28)).cell? ⟨P, 5, none⟩ = some ov := fun cs => (show Old W0 _ from (Fr.refl _ W0).alloc _).cell c5
 have c5b : ∀ cs, (W0.drew.alloc (.cells cs 28)).cell? ⟨P, 5, none⟩ = some ov := fun cs => (show Old W0 _ from (Fr.refl _ W0).drew.alloc _).cell c5
 have c5c : ∀ cs, (W0.alloc (.cells cs 28)).drew.cell? ⟨P, 5, none⟩ = some ov := fun cs => (show Old W0 _ from ((Fr.refl _ W0).alloc _).drew).cell c5
 replace hO0 := zz hO0
 replace hb0 := zz hb0
 replace hW0 := zz hW0
 replace hovP := zz hovP
 clear c0 c1
 go_cut [] from 10 to 19 (fun wx => ∃ ov', PB wx P s a ⟨ov', q.pv, q.bv⟩ vd /\ Fr (fun x => x = P \/ ov.ownBlock = some x) W0 wx /\ wx.ownsRow 0 28 6 ov' (gs.length + 1) (cs ++ [.int .i64 kind, .string sp, .string loc, .slice pa na ca, .string txt, .int .i64 a]) /\ ∀ k, ov'.ownBlock = some k -> ov.ownBlock = some k \/ W0.heap.size <= k)
 case first =>
  go_region_law (first | (refine step_append (by rfl) _ _ _ (by rfl) 28 i0 _ 6 88 Tryz.underlying22 hi hz0 hz1 hz2 rfl (by decide) ov gs.length _ (by rfl) (ownsRow_frame (F := fun _ => False) hrow0.out (((Fr.refl _ W0).alloc _).drew) (fun _ _ h => h)) ⟨W0.heap.size, 0, none⟩ 1 1 [.int .i64 kind, .string sp, .string loc, .slice pa na ca, .string txt, .int .i64 a] (by rfl) (by rfl) (by decide) (news_alloc W0 [.int .i64 kind, .string sp, .string loc, .slice pa na ca, .string txt, .int .i64 a] 28) (by intro u hu; simp at hu; rcases hu with rfl | rfl | rfl | rfl | rfl | rfl <;> rfl) (by unfold maxLen; omega) (by omega) ?_; intro g' c' w1 hrow' hgrow hnb; have f1 : Fr (fun x => ov.ownBlock = some x) W0 w1 := ((Fr.refl (fun x => ov.ownBlock = some x) W0).alloc _).drew.grown hgrow (fun k hk => Or.inl hk); have b1 := Blk.keep (hB0.out) f1 hPow; have k5 : w1.cell? ⟨P, 5, none⟩ = some ov := (by rw [b1.cell, hov.out]; rfl); have kf := b1.fz 5; replace hrow' := zz hrow'; replace hnb := zz hnb; replace f1 := zz f1; replace b1 := zz b1; clear hgrow))
  all_goals go_wp2_with fail
  all_goals go_meet
  all_goals refine ⟨_, b1.out.set 5 _, ?_, ownsRow_setCell hrow'.out (fun e => ?_) _, fun k hk => ?_⟩
  all_goals first
   | exact (f1.out.mono (G := fun x => x = P \/ ov.ownBlock = some x) (fun x hx => Or.inl (Or.inr hx))).set (Or.inl (Or.inl rfl)) _ _
   | (have hg' : g' = P := by simpa [Value.ownBlock] using e
      rcases hnb.out with h | h
      ·exact hPow (by rw [h, hg'])
      ·simp at h; omega)
   | (have hk2 : k = g' := by simpa [Value.ownBlock, eq_comm] using hk
      subst hk2
      exact hnb.out.imp id (fun h => by simp at h; omega))
 case rest =>
  obtain ⟨ov', bP, fP, rP, nP⟩ := hcut
  have hq := h.out
  have ho := hO0.out
  have hwW := ho.size
  have f2 : Fr (fun x => x = P \/ ov.ownBlock = some x) w wc := (Fr.of_old ho).trans fP (fun x hx => .inl hx)
  have hovq := hov.out
  have hlt := hq.lt
  have hnP : ∀ k, ov'.ownBlock = some k -> q.ov.ownBlock = some k \/ w.heap.size <= k := fun k hk => (nP k hk).imp (fun h => by rw [<- hovq]; exact h) (fun h => by omega)
  have hdv : ∀ k, ov'.ownBlock = some k -> k ≠ P /\ q.pv.ownBlock ≠ some k /\ q.bv.ownBlock ≠ some k := fun k hk => by
   rcases hnP k hk with h1 | h1
   ·exact hq.do_ k h1
   ·exact ⟨by omega, fun e => by have := hlt k (.inr (.inr (.inl e))); omega, fun e => by have := hlt k (.inr (.inr (.inr e))); omega⟩
  have hnw : ∀ x, SO P ⟨ov', q.pv, q.bv⟩ x -> SO P q x \/ w.heap.size <= x := by
   rintro x (hx | hx | hx | hx)
   ·exact .inl (.inl hx)
   ·exact (hnP x hx).imp (fun h => .inr (.inl h)) id
   ·exact .inl (.inr (.inr (.inl hx)))
   ·exact .inl (.inr (.inr (.inr hx)))
  have hA : ∀ k, k < w.heap.size -> SA P q k -> ¬ (k = P \/ ov.ownBlock = some k) /\ SA P ⟨ov', q.pv, q.bv⟩ k := fun k hk hs => ⟨fun e => hs (e.elim .inl (fun e => .inr (.inl (by rw [<- hovq]; exact e)))), fun e => (hnw k e).elim hs (fun h => by omega)⟩
  have hsq : SQ P s base wc a ⟨ov', q.pv, q.bv⟩ vd (gs ++ [⟨kind, sp, loc, ats, txt, a⟩]) opn bnd := by
   obtain ⟨bs, b3, b4⟩ := hq.bnd
   refine ⟨bP, ⟨_, ?_, TokG.app (g := ⟨kind, sp, loc, ats, txt, a⟩) (hav.out.keep f2 hA) (hTG.out.keep f2 hA)⟩, ownsRow_frame hq.opn f2 (fun k hk e => e.elim (hq.dp k hk).1 (fun e => (hq.do_ k (by rw [<- hovq]; exact e)).2.1 hk)), ⟨bs, ownsRow_frame b3 f2 (fun k hk e => e.elim (hq.db k hk) (fun e => (hq.do_ k (by rw [<- hovq]; exact e)).2.2 hk)), b4.keep f2 hA⟩, hdv, hq.dp, hq.db, ?_⟩
   ·have e1 : (gs ++ [(⟨kind, sp, loc, ats, txt, a⟩ : GT)]).length = gs.length + 1 := by simp
    rw [e1]; exact rP
   ·intro x hx
    rcases hnw x hx with h1 | h1
    ·exact hq.lo x h1
    ·omega
  have hgo : GoP P q w ⟨ov', q.pv, q.bv⟩ wc := ⟨f2.mono (fun x hx => .inl (hx.elim .inl (fun e => .inr (.inl (by rw [<- hovq]; exact e))))), hnw⟩
  replace hsq := zz hsq
  replace hgo := zz hgo
  clear bP fP rP nP hnP hdv hnw hA f2 hq ho hlt
  go_wp2
  go_ret
  exact ⟨rfl, _, hsq.out, hgo.out, rfl, rfl⟩
end
section
open Go.RowKit
theorem declaration_do (s : ByteArray) (w : World) : Calls Tryz.prog 134 #[.string s] w fun e w' => ∃ b : Bool, e = .returned (.bool b) /\ Old w w' := by
 go_enter Tryz.func134, Tryz.ntmps134
 go_wp2
 refine wp_loop_rounds 4 ?_
 repeat any_goals (first | (rw [rounds_succ]; go_wp2_with fail) | (refine wp_loop_rounds 4 ?_))
 all_goals (
  go_ret
  refine ⟨_, rfl, ?_⟩
  repeat (first | exact Fr.refl _ _ | refine Fr.alloc ?_ _))
end
section
open Go.RowKit
theorem elsOk_snoc {q : List UInt8} {chk refs : Bool} {m : List El} : ∀ {l : List El} {b0 b1 : UInt8}, elsOk q chk refs b0 b1 l -> elsOk q chk refs (elsEnd b0 b1 l).1 (elsEnd b0 b1 l).2 m -> elsOk q chk refs b0 b1 (l ++ m) := by
 intro l
 induction l with
 | nil => intro b0 b1 _ h; exact h
 | cons e l ih => rintro b0 b1 ⟨h1, h2⟩ h; exact ⟨h1, ih h2 h⟩
theorem elsEnd_app (m : List El) : ∀ (l : List El) (b0 b1 : UInt8), elsEnd b0 b1 (l ++ m) = elsEnd (elsEnd b0 b1 l).1 (elsEnd b0 b1 l).2 m := by
 intro l
 induction l with
 | nil => intro b0 b1; rfl
 | cons e l ih => intro b0 b1; exact ih _ _
theorem elsOut_app (m : List El) : ∀ (l : List El) (b0 b1 : UInt8), elsOut b1 (l ++ m) = elsOut b1 l ++ elsOut (elsEnd b0 b1 l).2 m := by
 intro l
 induction l with
 | nil => intro b0 b1; rfl
 | cons e l ih =>
  intro b0 b1
  show e.out b1 ++ elsOut (e.next b1).2 (l ++ m) = _
  rw [ih (e.next b1).1, <- List.append_assoc]
  rfl
structure TxS (q : List UInt8) (chk refs : Bool) (els : List El) (rs : List Nat) (rest : List UInt8) : Prop where
 ok : elsOk q chk refs 0 0 els
 out : elsOut 0 els = nb rs
 ch : ∀ r ∈ rs, isCh r = true
 n1 : chk = true -> (elsEnd 0 0 els).2 = 93 -> ∀ t, rest ≠ 93 :: 62 :: t
 n2 : chk = true -> elsEnd 0 0 els = (93, 93) -> ∀ t, rest ≠ 62 :: t
 n3 : (elsEnd 0 0 els).2 = 13 -> ∀ t, rest ≠ 10 :: t
section
variable {q : List UInt8} {chk refs : Bool} {els : List El} {rs : List Nat} {rest : List UInt8} {el : El} {r : Nat} {c : UInt8}
theorem TxS.nil : TxS q chk refs [] [] rest := ⟨trivial, rfl, fun r h => (by cases h), fun _ h => absurd h (by decide), fun _ h => absurd h (by decide), fun h => absurd h (by decide)⟩
theorem TxS.cr (h : TxS q chk refs els rs (13 :: rest)) (hq : (13 : UInt8) ∉ q) (hn : ∀ t, rest ≠ 10 :: t) : TxS q chk refs (els ++ [.by 13]) (rs ++ [10]) rest := by
 refine ⟨elsOk_snoc h.ok ⟨⟨hq, fun e => absurd e.2.2.2 (by decide)⟩, trivial⟩, ?_, ?_, ?_, ?_, ?_⟩
 ·rw [elsOut_app _ _ 0, h.out, nb_append]; rfl
 ·intro r hr
  rcases List.mem_append.1 hr with h1 | h1
  ·exact h.ch r h1
  ·simp at h1; subst h1; decide
 all_goals rw [elsEnd_app]
 ·exact fun _ e => absurd (show (13 : UInt8) = 93 from e) (by decide)
 ·intro _ e
  exact absurd (show (13 : UInt8) = 93 from congrArg Prod.snd e) (by decide)
 ·exact fun _ => hn
theorem TxS.crlf (h : TxS q chk refs els rs (13 :: 10 :: rest)) (hq : (13 : UInt8) ∉ q) (hq' : (10 : UInt8) ∉ q) : TxS q chk refs (els ++ [.by 13, .by 10]) (rs ++ [10]) rest := by
 refine ⟨elsOk_snoc h.ok ⟨⟨hq, fun e => absurd e.2.2.2 (by decide)⟩, ⟨hq', fun e => absurd e.2.2.2 (by decide)⟩, trivial⟩, ?_, ?_, ?_, ?_, ?_⟩
 ·rw [elsOut_app _ _ 0, h.out, nb_append]; rfl
 ·intro r hr
  rcases List.mem_append.1 hr with h1 | h1
  ·exact h.ch r h1
  ·simp at h1; subst h1; decide
 all_goals rw [elsEnd_app]
 ·exact fun _ e => absurd (show (10 : UInt8) = 93 from e) (by decide)
 ·intro _ e
  exact absurd (show (10 : UInt8) = 93 from congrArg Prod.snd e) (by decide)
 ·exact fun e => absurd (show (10 : UInt8) = 13 from e) (by decide)
theorem TxS.ref (h : TxS q chk true els rs (el.src ++ rest)) (hr : RefEl el r) (hc : isCh r = true) : TxS q chk true (els ++ [el]) (rs ++ [r]) rest := by
 have hnx : ∀ b, el.next b = (0, 0) := by
  rcases hr with ⟨hex, ds, rfl, _⟩ | ⟨nm, rfl, _⟩ <;> exact fun _ => rfl
 have hou : ∀ b, el.out b = u8 r := by
  rcases hr with ⟨hex, ds, rfl, _, _, he⟩ | ⟨nm, rfl, _⟩
  ·intro b; show u8 _ = _; rw [he]
  ·exact fun _ => rfl
 refine ⟨elsOk_snoc h.ok ⟨?_, trivial⟩, ?_, ?_, ?_, ?_, ?_⟩
 ·rcases hr with ⟨hex, ds, rfl, h1, h2, h3⟩ | ⟨nm, rfl, h1⟩
  ·exact ⟨rfl, h1, h2, by rw [h3]; exact hc⟩
  ·exact ⟨rfl, h1⟩
 ·rw [elsOut_app _ _ 0, h.out, nb_append]
  congr 1
  show el.out _ ++ [] = _
  rw [hou]; simp [nb]
 ·intro x hx
  rcases List.mem_append.1 hx with h1 | h1
  ·exact h.ch x h1
  ·simp at h1; subst h1; exact hc
 all_goals rw [elsEnd_app]
 all_goals (show _ -> _)
 ·intro _ e
  exact absurd (show (el.next _).2 = 93 from e) (by rw [hnx]; decide)
 ·intro _ e
  exact absurd (show el.next _ = (93, 93) from e) (by rw [hnx]; decide)
 ·intro e
  exact absurd (show (el.next _).2 = 13 from e) (by rw [hnx]; decide)
theorem TxS.one (h : TxS q chk refs els rs (c :: rest)) (hc : c.toNat < 128) (hr : isCh c.toNat = true) (hq : c ∉ q) (h13 : c ≠ 13) (hn : chk = true -> ∀ t, c :: rest ≠ 93 :: 93 :: 62 :: t) : TxS q chk refs (els ++ [.by c]) (rs ++ [c.toNat]) rest := by
 refine ⟨elsOk_snoc h.ok ⟨⟨hq, fun e => ?_⟩, trivial⟩, ?_, ?_, ?_, ?_, ?_⟩
 ·obtain ⟨e1, e2, e3, rfl⟩ := e
  exact h.n2 e1 (Prod.ext e2 e3) rest rfl
 ·rw [elsOut_app _ _ 0, h.out, nb_append]
  congr 1
  show El.out _ (.by c) ++ [] = _
  have : ¬ ((elsEnd 0 0 els).2 = 13 /\ c = 10) := by
   rintro ⟨e1, rfl⟩
   exact h.n3 e1 rest rfl
  simp only [El.out, h13, if_false, this, List.append_nil, nb, List.flatMap_cons, List.flatMap_nil, u8_ascii hc]
  rw [UInt8.ofNat_toNat]
 ·intro x hx
  rcases List.mem_append.1 hx with h1 | h1
  ·exact h.ch x h1
  ·simp at h1; subst h1; exact hr
 all_goals rw [elsEnd_app]
 ·rintro e1 (e2 : c = 93) t rfl
  subst e2
  exact hn e1 t rfl
 ·intro e1 e2 t
  have h1 : (elsEnd 0 0 els).2 = 93 := congrArg Prod.fst e2
  have h2 : c = 93 := congrArg Prod.snd e2
  subst h2
  rintro rfl
  exact h.n1 e1 h1 t rfl
 ·exact fun e => absurd (show c = 13 from e) h13
theorem elsMany {q : List UInt8} {chk refs : Bool} : ∀ (l : List UInt8) (b0 b1 : UInt8), (∀ c ∈ l, 128 <= c.toNat /\ c ∉ q) -> l ≠ [] -> elsOk q chk refs b0 b1 (l.map .by) /\ elsOut b1 (l.map .by) = l /\ 128 <= (elsEnd b0 b1 (l.map .by)).2.toNat := by
 intro l
 induction l with
 | nil => intro b0 b1 _ h; exact absurd rfl h
 | cons c l ih =>
  intro b0 b1 hl _
  obtain ⟨h1, h2⟩ := hl c (by simp)
  have hne : ∀ n : UInt8, n.toNat < 128 -> c ≠ n := by rintro n hn rfl; omega
  have ho : El.out b1 (.by c) = [c] := by
   have h13 : c ≠ 13 := hne 13 (by decide)
   have h10 : c ≠ 10 := hne 10 (by decide)
   simp [El.out, h13, h10]
  have hok : El.ok q chk refs b0 b1 (.by c) := ⟨h2, fun e => hne 62 (by decide) e.2.2.2⟩
  by_cases hl0 : l = []
  ·subst hl0
   exact ⟨⟨hok, trivial⟩, by show El.out b1 (.by c) ++ [] = _; rw [ho]; rfl, h1⟩
  ·obtain ⟨k1, k2, k3⟩ := ih b1 c (fun x hx => hl x (by simp [hx])) hl0
   refine ⟨⟨hok, k1⟩, ?_, k3⟩
   show El.out b1 (.by c) ++ elsOut c (l.map .by) = _
   rw [ho, k2]; rfl
theorem TxS.char (h : TxS q chk refs els rs (u8 r ++ rest)) (hr : isCh r = true) (hq : ∀ c ∈ q, c.toNat < 128 /\ c.toNat ≠ r) (h13 : r ≠ 13) (hn : chk = true -> ∀ t, u8 r ++ rest ≠ 93 :: 93 :: 62 :: t) : TxS q chk refs (els ++ (u8 r).map .by) (rs ++ [r]) rest := by
 by_cases hs : r < 128
 ·have e : u8 r = [UInt8.ofNat r] := u8_ascii hs
  have e2 : (UInt8.ofNat r).toNat = r := by
   show r % 256 = r
   omega
  rw [e] at h hn ⊢
  have := h.one (by omega) (by rw [e2]; exact hr) (fun hm => (hq _ hm).2 e2) (by rintro h1; rw [h1] at e2; exact h13 e2.symm) hn
  rw [e2] at this
  exact this
 ·have hb := u8_bytes (isCh_ok hr) (by omega)
  have hne : u8 r ≠ [] := by
   intro e
   have := (u8_len r).1
   rw [e] at this
   exact absurd this (by decide)
  obtain ⟨k1, k2, k3⟩ := elsMany (q := q) (chk := chk) (refs := refs) (u8 r) (elsEnd 0 0 els).1 (elsEnd 0 0 els).2 (fun c hc => ⟨hb c hc, fun hm => by have := (hq c hm).1; have := hb c hc; omega⟩) hne
  refine ⟨elsOk_snoc h.ok k1, ?_, ?_, ?_, ?_, ?_⟩
  ·rw [elsOut_app _ _ 0, h.out, nb_append, k2]; simp [nb]
  ·intro x hx
   rcases List.mem_append.1 hx with h1 | h1
   ·exact h.ch x h1
   ·simp at h1; subst h1; exact hr
  all_goals rw [elsEnd_app]
  ·intro _ e; rw [e] at k3; exact absurd k3 (by decide)
  ·intro _ e; rw [e] at k3; exact absurd k3 (by decide)
  ·intro e; rw [e] at k3; exact absurd k3 (by decide)
theorem TxS.close (h : TxS [] true false els rs (93 :: 93 :: 62 :: rest)) : Item.ok (.cd (els ++ [.by 93, .by 93]) rs) := by
 refine ⟨elsOk_snoc h.ok ⟨⟨by simp, fun e => absurd e.2.2.2 (by decide)⟩, ⟨by simp, fun e => absurd e.2.2.2 (by decide)⟩, trivial⟩, ?_, ?_, h.ch⟩
 ·rw [elsEnd_app]; rfl
 ·rw [elsOut_app _ _ 0, h.out]
  congr 1
  simp [elsOut, El.out, El.next]
end
theorem ChEls.ne {el : List El} {r : Nat} (h : ChEls el r) : srcs el ≠ [] := by
 rcases h with ⟨rfl, _⟩ | ⟨e, rfl, he⟩
 ·rw [srcs_byl]
  intro e
  have := (u8_len r).1
  rw [e] at this
  exact absurd this (by decide)
 ·rw [src1]
  have := he.len
  intro e
  rw [e] at this
  exact absurd this (by decide)
theorem ChEls.go {q : List UInt8} {chk : Bool} {els : List El} {rs : List Nat} {rest : List UInt8} {el : List El} {r : Nat} (hc : ChEls el r) (h : TxS q chk true els rs (srcs el ++ rest)) (hr : isCh r = true) (hq : ∀ c ∈ q, c.toNat < 128 /\ (c ≠ 38 -> (srcs el).head? ≠ some c)) (h13 : (srcs el).head? ≠ some 13) (hn : chk = true -> ∀ t, srcs el ++ rest ≠ 93 :: 93 :: 62 :: t) : TxS q chk true (els ++ el) (rs ++ [r]) rest := by
 rcases hc with ⟨rfl, h38⟩ | ⟨e, rfl, he⟩
 ·rw [srcs_byl] at h hn hq h13
  have hd : ∀ n, n < 128 -> r = n -> (u8 r).head? = some (UInt8.ofNat n) := by
   rintro n hn rfl
   rw [u8_ascii hn]; rfl
  refine h.char hr (fun c hc => ⟨(hq c hc).1, fun e => ?_⟩) (fun e => h13 (hd 13 (by omega) e)) hn
  refine (hq c hc).2 ?_ ?_
  ·rintro rfl; exact h38 e.symm
  ·rw [hd c.toNat (hq c hc).1 e.symm, UInt8.ofNat_toNat]
 ·rw [src1] at h
  exact h.ref he hr
end
section
open Go.RowKit
theorem add_sp {P : Nat} {s : ByteArray} {base : Nat} {w : World} {a : Nat} {q : PV} {vd : Int} {gs : List GT} {opn : List ByteArray} {bnd : List (List (ByteArray × ByteArray))} (h : SQ P s base w a q vd gs opn bnd) {a' : Nat} {w1 : World} (k : SP P s q vd w a' w1) (hn : gs.length <= 1000000) (hbase : base <= w.heap.size)
  (kind : Int) (sp loc : ByteArray) (txt : ByteArray) (p0 : Int) :
  Calls Tryz.prog 129 #[.pointer (some ⟨P, 0, none⟩), .agg #[.int .i64 kind, .string sp, .string loc, .slice none 0 0, .string txt, .int .i64 p0]] w1 fun e w' => e = .returned (.bool true) /\ Hid (∃ q', SQ P s base w' a' q' vd (gs ++ [⟨kind, sp, loc, [], txt, a'⟩]) opn bnd /\ GoP P q w q' w') := by
 refine (add_do P s base w1 a' q vd gs opn bnd (h.sp k) hn (Nat.le_trans hbase k.2.size) kind sp loc _ [] txt (AttrG.nil _ _) p0).mono ?_
 rintro e w' ⟨rfl, q', h1, h2, _⟩
 exact ⟨rfl, q', h1, (GoP.of k.2).tr h2⟩
structure TextP (P : Nat) (s : ByteArray) (base a : Nat) (q : PV) (vd : Int) (gs : List GT) (opn : List ByteArray) (bnd : List (List (ByteArray × ByteArray))) (w : World) (e : Ending) (w' : World) : Prop where
 ex : ∃ ok : Bool, e = .returned (.bool ok) /\ ((ok = false /\ FailP P s q w w') \/ (ok = true /\ ∃ q' els rs rest, s.data.toList.drop a = srcs els ++ rest /\ (rest = [] \/ ∃ t, rest = 60 :: t) /\ els ≠ [] /\ TxS [60, 38] true true els rs rest /\ SQ P s base w' (a + (srcs els).length) q' vd (gs ++ [⟨3, ⟨#[]⟩, ⟨#[]⟩, [], nameB rs, (a + (srcs els).length : Nat)⟩]) opn bnd /\ GoP P q w q' w'))
theorem nameB_snoc (rs : List Nat) (r : Nat) : nameB rs ++ ⟨(u8 r).toArray⟩ = nameB (rs ++ [r]) := by
 apply bytes_eq
 simp [nameB, nb]
theorem take_ne {l lit : List UInt8} (h : ∀ t, l ≠ lit ++ t) : l.take lit.length ≠ lit := fun e => h (l.drop lit.length) (by rw [<- List.take_append_drop lit.length l]; rw [e]; simp)
theorem lit_or (lit l : List UInt8) : (∃ t, l = lit ++ t) \/ ∀ t, l ≠ lit ++ t := by
 by_cases h : ∃ t, l = lit ++ t
 ·exact .inl h
 ·exact .inr fun t e => h ⟨t, e⟩
abbrev uB (r : Nat) : ByteArray := ⟨(u8 r).toArray⟩
structure NxP (P : Nat) (s : ByteArray) (a : Nat) (q : PV) (vd : Int) (w : World) (qu : List UInt8) (chk : Bool) (k : Nat) (x : ByteArray) (w1 : World) : Prop where
 ex : ∃ els rs rest, x = nameB rs /\ s.data.toList.drop a = srcs els ++ rest /\ rest.length < k /\ TxS qu chk true els rs rest /\ SP P s q vd w (a + (srcs els).length) w1
theorem text_do (P : Nat) (s : ByteArray) (base : Nat) (w : World) (a : Nat) (q : PV) (vd : Int) (gs : List GT) (opn : List ByteArray) (bnd : List (List (ByteArray × ByteArray))) (h : SQ P s base w a q vd gs opn bnd) (hz : s.size <= 1000000) (hn : gs.length <= 1000000) (hbase : base <= w.heap.size) (c0 : UInt8) (t0 : List UInt8) (hL0 : s.data.toList.drop a = c0 :: t0) (hc0 : c0 ≠ 60) :
  Calls Tryz.prog 75 #[.pointer (some ⟨P, 0, none⟩)] w (TextP P s base a q vd gs opn bnd w) := by
 have haz := (at_byte hL0).1
 replace h := zz h
 replace hL0 := zz hL0
 replace hn := zz hn
 replace hbase := zz hbase
 replace hc0 := zz hc0
 go_enter Tryz.func75, Tryz.ntmps75
 go_wp2
 go_loopg [3] (s.size - a) (fun k u3 wr => ∃ els rs rest, u3 = .string (nameB rs) /\ s.data.toList.drop a = srcs els ++ rest /\ rest.length = k /\ TxS [60, 38] true true els rs rest /\ SP P s q vd w (a + (srcs els).length) wr)
 case atStart => exact ⟨[], [], s.data.toList.drop a, rfl, rfl, by rw [List.length_drop, <- Lib.size_eq], TxS.nil, SP.start h.out.blk⟩
 case round =>
  obtain ⟨els, rs, rest, rfl, hL, hk, hT, hB⟩ := hrel
  have hsz := at_le hL (by omega)
  have hgo := at_go hL
  obtain ⟨A, hA⟩ : ∃ A, A = a + (srcs els).length := ⟨_, rfl⟩
  rw [<- hA] at hB hsz hgo
  obtain ⟨c0, c1, cf⟩ := hB.c
  obtain ⟨X, hX⟩ : ∃ X, X = nameB rs := ⟨_, rfl⟩
  rw [<- hX]
  have hXz : X.size <= 1000000 := by
   have e1 := elsOut_le hT.ok
   rw [hT.out] at e1
   have e2 : X.size = (nb rs).length := by rw [hX, Lib.size_eq]; rfl
   omega
  have hadd : ∀ (x : ByteArray) (w1 : World), x.size <= 4 -> (Op.stringOp .add X x).run Tryz.prog w1 = .ok (.string (X ++ x)) w1 := fun x w1 hx => run_string_add_sum w1 _ _ (by omega)
  replace hadd := zz hadd
  clear hXz
  have hfin : (rest = [] \/ ∃ t, rest = 60 :: t) -> ∀ w1, SP P s q vd w A w1 -> Calls Tryz.prog 129 #[.pointer (some ⟨P, 0, none⟩), .agg #[.int .i64 3, .string ⟨#[]⟩, .string ⟨#[]⟩, .slice none 0 0, .string X, .int .i64 0]] w1 fun e w' => e = .returned (.bool true) /\ Hid (TextP P s base a q vd gs opn bnd w (.returned (.bool true)) w') := fun hr w1 k => by
   refine (add_sp h.out k hn.out hbase.out 3 ⟨#[]⟩ ⟨#[]⟩ X 0).mono ?_
   rintro e w' ⟨rfl, q', h1, h2⟩
   refine ⟨rfl, ⟨true, rfl, .inr ⟨rfl, q', els, rs, rest, hL, hr, ?_, hT, ?_, h2⟩⟩⟩
   ·rintro rfl
    have hL0 := hL0.out
    rw [show srcs ([] : List El) = [] from rfl, List.nil_append] at hL
    rw [hL] at hL0
    rcases hr with rfl | ⟨t, rfl⟩
    ·cases hL0
    ·injection hL0 with e1 _
     exact hc0.out e1.symm
   ·rw [<- hA, <- hX]; exact h1
  replace hfin := zz hfin
  replace hX := zz hX
  replace hT := zz hT
  replace hA := zz hA
  replace hL := zz hL
  rcases rest with _ | ⟨c, t⟩
  ·have he := quietly (fun n => (hB.drewN n).endY (by simp at hsz; omega))
   have hf := hfin.out (.inl rfl)
   replace hf := zz hf
   replace he := zz he
   replace hB := zz hB
   clear hsz hgo hk hfin
   go_wp2
   go_quiet (first | (go_at_call 42; exact he.out _))
   go_wp2_with (go_at_call 129; refine (hf.out _ (hB.out.drewN nq)).mono ?_; rintro e w2 ⟨rfl, k2⟩)
   go_ret
   exact k2.out
  ·obtain ⟨h1, h2, h3⟩ := at_byte hgo
   have he := quietly (fun n => (hB.drewN n).endN h1)
   obtain ⟨n, hn⟩ : ∃ n, n = c.toNat := ⟨_, rfl⟩
   rw [<- hn] at h2
   have i1 : (A : Int) < (s.size : Int) := by omega
   have hAs : A <= s.size := by omega
   replace he := zz he
   replace hk := zz hk
   by_cases h60 : c = 60
   ·have hn60 : n = 60 := by rw [hn, h60]; rfl
    subst hn60
    replace hB := zz hB
    replace hn := zz hn
    clear hsz hgo
    go_wp2
    go_quiet (first | (go_at_call 42; exact he.out _))
    go_wp2_with (go_at_call 129; refine (hfin.out (.inr ⟨t, by rw [h60]⟩) _ (hB.out.drewN nq)).mono ?_; rintro e w2 ⟨rfl, k2⟩)
    go_ret
    exact k2.out
   ·have e60 : ((n : Int) != 60) = true := by
     rw [bne_iff_ne]; intro e
     apply h60
     exact UInt8.toNat_inj.1 (by rw [<- hn]; show n = 60; omega)
    rcases lit_or [93, 93, 62] (c :: t) with ⟨t', ht⟩ | hno
    ·rw [ht] at hgo
     have hh := fun m => (hB.drewN m).hasY hz hAs [93, 93, 62] t' hgo (by decide)
     have hf := fun (w1 : World) (k : SP P s q vd w (A + 3) w1) => k.fail 1 (by decide) (at_le hgo hAs ▸ by simp)
     replace hh := zz hh
     replace hf := zz hf
     replace hB := zz hB
     replace hn := zz hn
     replace h3 := zz h3
     clear hsz hgo ht
     go_wp2
     go_quiet (first | (go_at_call 42; exact he.out _))
     go_wp2_with (first
      | (go_at_call 76; refine (hh.out _).mono ?_; rintro e w2 ⟨rfl, _, k2⟩)
      | (go_at_call 82; refine (hf.out _ k2.out).mono ?_; rintro e w3 ⟨rfl, k3⟩))
     go_ret
     exact ⟨⟨false, rfl, .inl ⟨rfl, k3.out⟩⟩⟩
    ·have hh1 := fun m => (hB.drewN m).hasN hz hAs [93, 93, 62] (by rw [hgo]; exact take_ne hno) (by decide)
     replace hh1 := zz hh1
     have hnx : ∀ (w1 : World) (els' : List El) (r' : Nat) (rest' : List UInt8), s.data.toList.drop A = srcs els' ++ rest' -> srcs els' ≠ [] -> TxS [60, 38] true true (els ++ els') (rs ++ [r']) rest' -> SP P s q vd w (A + (srcs els').length) w1 -> NxP P s a q vd w [60, 38] true gk (X ++ uB r') w1 := fun w1 els' r' rest' e1 e2 e3 e4 => by
      have hke := hk.out
      have e5 : (c :: t).length = (srcs els').length + rest'.length := by rw [<- hgo, e1, List.length_append]
      have e6 := List.length_pos_iff.2 e2
      refine ⟨⟨els ++ els', rs ++ [r'], rest', by rw [hX.out, nameB_snoc], ?_, by omega, e3, ?_⟩⟩
      ·rw [hL.out, srcs_app, List.append_assoc, <- hgo, e1]
      ·have : a + (srcs (els ++ els')).length = A + (srcs els').length := by rw [hA.out, srcs_app, List.length_append]; omega
       rw [this]; exact e4
     replace hnx := zz hnx
     rcases lit_or [13, 10] (c :: t) with ⟨t', ht⟩ | hno2
     ·have hh := fun (w1 : World) (k : SP P s q vd w A w1) => k.hasY hz hAs [13, 10] t' (hgo.trans ht) (by decide)
      have hf := fun (w1 : World) (k : SP P s q vd w (A + 2) w1) => hnx.out w1 [.by 13, .by 10] 10 t' (hgo.trans ht) (by simp [srcs, El.src]) ((ht ▸ hT.out).crlf (by decide) (by decide)) k
      replace hh := zz hh
      replace hf := zz hf
      replace hB := zz hB
      replace hn := zz hn
      replace h3 := zz h3
      have hadd10 : ∀ w1, (Op.stringOp .add X ⟨#[10]⟩).run Tryz.prog w1 = .ok (.string (X ++ ⟨#[10]⟩)) w1 := fun w1 => hadd.out _ w1 (by decide)
      clear hsz hgo ht hno hnx hadd
      go_wp2
      go_quiet (first | (go_at_call 42; exact he.out _))
      go_wp2_with (first
       | (go_at_call 76; refine (hh.out _ k1.out).mono ?_; rintro e w2 ⟨rfl, _, k2⟩; clear k1)
       | (go_at_call 76; refine (hh1.out _).mono ?_; rintro e w1 ⟨rfl, _, k1⟩))
      obtain ⟨⟨els', rs', rest', x1, x2, x3, x4, x5⟩⟩ := hf.out _ k2.out
      go_roundg rest'.length
      case measure => exact x3
      case rel => exact ⟨els', rs', rest', congrArg Value.string x1, x2, rfl, x4, x5⟩
     ·have hh2 := fun (w1 : World) (k : SP P s q vd w A w1) => k.hasN hz hAs [13, 10] (by rw [hgo]; exact take_ne hno2) (by decide)
      replace hh2 := zz hh2
      by_cases h13 : c = 13
      ·subst h13
       have hh := fun (w1 : World) (k : SP P s q vd w A w1) => k.hasY hz hAs [13] t hgo (by decide)
       have hf := fun (w1 : World) (k : SP P s q vd w (A + 1) w1) => hnx.out w1 [.by 13] 10 t hgo (by simp [srcs, El.src]) (hT.out.cr (by decide) (fun t' e => hno2 t' (by rw [e]; rfl))) k
       have hadd10 : ∀ w1, (Op.stringOp .add X ⟨#[10]⟩).run Tryz.prog w1 = .ok (.string (X ++ ⟨#[10]⟩)) w1 := fun w1 => hadd.out _ w1 (by decide)
       replace hh := zz hh
       replace hf := zz hf
       replace hB := zz hB
       replace hn := zz hn
       replace h3 := zz h3
       clear hsz hgo hno hno2 hnx hadd
       go_wp2
       go_quiet (first | (go_at_call 42; exact he.out _))
       go_wp2_with (first
        | (go_at_call 76; refine (hh.out _ k2.out).mono ?_; rintro e w3 ⟨rfl, _, k3⟩; clear k2)
        | (go_at_call 76; refine (hh2.out _ k1.out).mono ?_; rintro e w2 ⟨rfl, _, k2⟩; clear k1)
        | (go_at_call 76; refine (hh1.out _).mono ?_; rintro e w1 ⟨rfl, _, k1⟩))
       obtain ⟨⟨els', rs', rest', x1, x2, x3, x4, x5⟩⟩ := hf.out _ k3.out
       go_roundg rest'.length
       case measure => exact x3
       case rel => exact ⟨els', rs', rest', congrArg Value.string x1, x2, rfl, x4, x5⟩
      ·have hh3 := fun (w1 : World) (k : SP P s q vd w A w1) => k.hasN hz hAs [13] (by rw [hgo]; exact take_ne (fun t' e => h13 (by injection e))) (by decide)
       have hd : ∀ (w1 : World), SP P s q vd w A w1 -> Calls Tryz.prog 128 #[.pointer (some ⟨P, 0, none⟩)] w1 fun e w' => ∃ (x : ByteArray) (ok : Bool), e = .returned (.tuple #[.string x, .bool ok]) /\ Hid ((ok = false /\ FailP P s q w w') \/ (ok = true /\ NxP P s a q vd w [60, 38] true gk (X ++ x) w')) /\ Hid (ok = true -> ∀ w1, (Op.stringOp .add X x).run Tryz.prog w1 = .ok (.string (X ++ x)) w1) := fun w1 k => by
        refine (k.data hz h1).mono ?_
        rintro e w' ⟨x, ok, rfl, h4⟩
        by_cases hx : ok = false
        ·exact ⟨x, ok, rfl, .inl ⟨hx, (h4.out.resolve_right (fun h => by rw [hx] at h; cases h.1)).2⟩, fun h => absurd h (by rw [hx]; decide)⟩
        ·obtain ⟨_, els', r', rest', rfl, hr, hC, hL', hS⟩ := h4.out.resolve_left (fun h => hx h.1)
         have hne : srcs els' ≠ [] := hC.ne
         have hd : (srcs els').head? = some c := by
          rw [hgo] at hL'
          cases hs : srcs els' with
          | nil => exact absurd hs hne
          | cons y z => rw [hs] at hL'; injection hL' with e1 _; rw [<- e1]; rfl
         refine ⟨_, ok, rfl, .inr ⟨by simpa using hx, hnx.out w' els' r' rest' hL' hne (hC.go (by rw [<- hL', hgo]; exact hT.out) hr ?_ ?_ ?_) hS⟩, fun _ w1 => hadd.out _ w1 (u8_len r').2⟩
         ·intro x hx
          rw [hd]
          simp at hx
          rcases hx with rfl | rfl
          ·exact ⟨by decide, fun _ e => h60 (Option.some.inj e)⟩
          ·exact ⟨by decide, fun e => absurd rfl e⟩
         ·rw [hd]; exact fun e => h13 (Option.some.inj e)
         ·intro _ t'; rw [<- hL', hgo]; exact hno t'
       replace hh3 := zz hh3
       replace hd := zz hd
       replace hB := zz hB
       replace hn := zz hn
       replace h3 := zz h3
       clear hsz hgo hno hno2 hnx hadd
       go_wp2
       go_quiet (first | (go_at_call 42; exact he.out _))
       go_upto_region 8 with (first
        | (go_at_call 128; refine (hd.out _ k3.out).mono ?_; rintro e w4 ⟨x, ok, rfl, k4, hadd⟩; clear k3)
        | (go_at_call 76; refine (hh3.out _ k2.out).mono ?_; rintro e w3 ⟨rfl, _, k3⟩; clear k2)
        | (go_at_call 76; refine (hh2.out _ k1.out).mono ?_; rintro e w2 ⟨rfl, _, k2⟩; clear k1)
        | (go_at_call 76; refine (hh1.out _).mono ?_; rintro e w1 ⟨rfl, _, k1⟩))
       cases ok with
       | false =>
        go_wp2
        go_ret
        exact ⟨⟨false, rfl, .inl ⟨rfl, (k4.out.resolve_right (fun h => by cases h.1)).2⟩⟩⟩
       | true =>
        replace hadd := hadd.out rfl
        go_wp2
        obtain ⟨⟨els', rs', rest', x1, x2, x3, x4, x5⟩⟩ := (k4.out.resolve_left (fun h => by cases h.1)).2
        go_roundg rest'.length
        case measure => exact x3
        case rel => exact ⟨els', rs', rest', congrArg Value.string x1, x2, rfl, x4, x5⟩
end
end Go.Proofs.YtepbbahdhhjibaaGreatDoor
