/- own text -/
import Derived.Test.YtepbbahdhhjibaaGreatDoorD35
import Derived.Test.YtepbbahdhhjibaaGreatDoorD36
namespace Go.Proofs.YtepbbahdhhjibaaGreatDoor
set_option linter.unusedSimpArgs false
set_option linter.unusedVariables false
set_option maxHeartbeats 8000000
set_option maxRecDepth 100000
section
open Go.RowKit
def TokA (w : World) : List GT -> List Value -> Prop
 | [], cs => cs = []
 | g :: gs, cs => ∃ av rest, cs = gtCells g av ++ rest /\ AtL w av g.ats /\ TokA w gs rest
theorem TokA.old {w w' : World} (f : Old w w') : ∀ {gs : List GT} {cs : List Value}, TokA w gs cs -> TokA w' gs cs := by
 intro gs
 induction gs with
 | nil => intro cs h; exact h
 | cons g gs ih =>
  rintro cs ⟨av, rest, h1, h2, h3⟩
  exact ⟨av, rest, h1, h2.old f, ih h3⟩
theorem TokA.app {w : World} {g : GT} {av : Value} (ha : AtL w av g.ats) : ∀ {gs : List GT} {cs : List Value}, TokA w gs cs -> TokA w (gs ++ [g]) (cs ++ gtCells g av) := by
 intro gs
 induction gs with
 | nil =>
  intro cs h
  have h' : cs = [] := h
  subst h'
  exact ⟨av, [], by simp, ha, rfl⟩
 | cons t gs ih =>
  rintro cs ⟨av', rest, h1, h2, h3⟩
  exact ⟨av', rest ++ gtCells g av, by rw [h1, List.append_assoc], h2, ih h3⟩
theorem TokA.get {w : World} : ∀ {gs : List GT} {cs : List Value}, TokA w gs cs -> ∀ (i : Nat) (h : i < gs.length), ∃ av, AtL w av gs[i].ats /\ cs[i * 6]? = some (.int .i64 gs[i].kind) /\ cs[i * 6 + 1]? = some (.string gs[i].sp) /\ cs[i * 6 + 2]? = some (.string gs[i].loc) /\ cs[i * 6 + 3]? = some av /\ cs[i * 6 + 4]? = some (.string gs[i].txt) /\ cs[i * 6 + 5]? = some (.int .i64 gs[i].pos) := by
 intro gs
 induction gs with
 | nil => intro cs _ i h; exact absurd h (Nat.not_lt_zero _)
 | cons g gs ih =>
  rintro cs ⟨av, rest, rfl, h2, h3⟩ i hi
  cases i with
  | zero => exact ⟨av, h2, rfl, rfl, rfl, rfl, rfl, rfl⟩
  | succ i =>
   obtain ⟨av', e0, e1, e2, e3, e4, e5, e6⟩ := ih h3 i (by simpa using hi)
   refine ⟨av', e0, ?_⟩
   rw [show (i + 1) * 6 = i * 6 + 6 by omega]
   have hg : ∀ k, (gtCells g av ++ rest)[i * 6 + 6 + k]? = rest[i * 6 + k]? := fun k => by
    rw [List.getElem?_append_right (by simp [gtCells]; omega)]
    congr 1
    simp [gtCells]; omega
   exact ⟨(hg 0).trans e1, (hg 1).trans e2, (hg 2).trans e3, (hg 3).trans e4, (hg 4).trans e5, (hg 5).trans e6⟩
structure RowA (w : World) (lv : Value) (gs : List GT) : Prop where
 ex : ∃ cs, w.ownsRow 0 28 6 lv gs.length cs /\ TokA w gs cs
theorem RowA.old {w w' : World} {lv : Value} {gs : List GT} (h : RowA w lv gs) (f : Old w w') : RowA w' lv gs := by
 obtain ⟨cs, h1, h2⟩ := h.ex
 exact ⟨cs, ownsRow_frame h1 f (fun _ _ h => h), h2.old f⟩
theorem RowA.shape {w : World} {lv : Value} {gs : List GT} (h : RowA w lv gs) : ∃ pa ca, lv = .slice pa (gs.length : Nat) ca := by
 obtain ⟨cs, h1, h2⟩ := h.ex
 exact ownsRow_shape h1
theorem RowA.get {w : World} {lv : Value} {gs : List GT} (h : RowA w lv gs) (i : Nat) (hi : i < gs.length) : ∃ g cap pa ca, lv = .slice (some ⟨g, 0, none⟩) (gs.length : Nat) cap /\ gs.length <= cap /\ AtL w (.slice pa (gs[i].ats.length : Nat) ca) gs[i].ats /\ w.cell? ⟨g, i * 6, none⟩ = some (.int .i64 gs[i].kind) /\ w.cell? ⟨g, i * 6 + 1, none⟩ = some (.string gs[i].sp) /\ w.cell? ⟨g, i * 6 + 2, none⟩ = some (.string gs[i].loc) /\ w.cell? ⟨g, i * 6 + 3, none⟩ = some (.slice pa (gs[i].ats.length : Nat) ca) /\ w.cell? ⟨g, i * 6 + 4, none⟩ = some (.string gs[i].txt) /\ w.cell? ⟨g, i * 6 + 5, none⟩ = some (.int .i64 gs[i].pos) := by
 obtain ⟨cs, h1, h2⟩ := h.ex
 obtain ⟨g, cap, hv, hle, hc⟩ := ownsRow_some h1 (by omega)
 obtain ⟨av, e0, e1, e2, e3, e4, e5, e6⟩ := h2.get i hi
 obtain ⟨pa, ca, rfl, _, _⟩ := e0.shape
 exact ⟨g, cap, pa, ca, hv, hle, e0, hc _ _ e1, hc _ _ e2, hc _ _ e3, hc _ _ e4, hc _ _ e5, hc _ _ e6⟩
theorem RowA.lg {w : World} {lv : Value} {gs : List GT} (h : RowA w lv gs) : LG w lv gs := by
 obtain ⟨p, c, hv⟩ := h.shape
 refine ⟨p, c, hv, fun i hi => ?_⟩
 obtain ⟨g, cap, pa, ca, hv2, _, hA, e1, e2, e3, e4, e5, e6⟩ := h.get i hi
 rw [hv] at hv2
 injection hv2 with h1 _ _
 exact ⟨g, 0, _, h1, hA, by rw [Nat.zero_add]; exact e1, by rw [Nat.zero_add]; exact e2, by rw [Nat.zero_add]; exact e3, by rw [Nat.zero_add]; exact e4, by rw [Nat.zero_add]; exact e5, by rw [Nat.zero_add]; exact e6⟩
structure AppS (w : World) (gs : List GT) (v : Value) (wr : World) : Prop where
 old : Old w wr
 ex : ∃ cs, wr.ownsRow 0 28 6 v gs.length cs /\ TokA w gs cs
 own : ∀ k, v.ownBlock = some k -> w.heap.size <= k
theorem AppS.start (w : World) : AppS w [] (.slice none 0 0) w := ⟨Fr.refl _ _, ⟨[], World.ownsRow_nil _ _ _ _, rfl⟩, fun k hk => (by cases hk)⟩
theorem AppS.of_old {w wr w2 : World} {gs : List GT} {v : Value} (h : AppS w gs v wr) (f : Old wr w2) : AppS w gs v w2 := by
 obtain ⟨cs, h1, h2⟩ := h.ex
 exact ⟨h.old.trans f (fun _ h => .inl h), ⟨cs, ownsRow_frame h1 f (fun _ _ h => h), h2⟩, h.own⟩
theorem AppS.app {w wr w2 : World} {gs : List GT} {v : Value} (h : AppS w gs v wr) {cs : List Value} (hT : TokA w gs cs) {t : GT} {av : Value} (hA : AtL w av t.ats) {g' c' n : Nat} (hn : n = gs.length) (hrow : w2.ownsRow 0 28 6 (.slice (some ⟨g', 0, none⟩) (n + 1 : Nat) c') (n + 1) (cs ++ gtCells t av)) (f : Fr (fun x => v.ownBlock = some x) wr w2) (hnb : v.ownBlock = some g' \/ wr.heap.size <= g') : AppS w (gs ++ [t]) (.slice (some ⟨g', 0, none⟩) (n + 1 : Nat) c') w2 := by
 subst hn
 have ho : Old w w2 := h.old.trans f (fun x hx => .inr (h.own x hx))
 refine ⟨ho, ⟨cs ++ gtCells t av, ?_, TokA.app hA hT⟩, fun k hk => ?_⟩
 ·have e1 : (gs ++ [t]).length = gs.length + 1 := by simp
  rw [e1]; exact hrow
 ·have e2 : g' = k := by simpa [Value.ownBlock] using hk
  subst e2
  have := h.old.size
  rcases hnb with h1 | h1
  ·exact h.own _ h1
  ·omega
theorem AppS.fin {w wr : World} {gs : List GT} {v : Value} (h : AppS w gs v wr) : RowA wr v gs := by
 obtain ⟨cs, h1, h2⟩ := h.ex
 exact ⟨cs, h1, h2.old h.old⟩
theorem merged_do (w : World) (lv : Value) (gs : List GT) (h : LG w lv gs) (hn : gs.length <= 300000) (hk3 : ∀ g ∈ gs, g.kind ≠ 3) :
  Calls Tryz.prog 40 #[lv] w fun e w' => ∃ lv', e = .returned lv' /\ Hid (Old w w' /\ RowA w' lv' gs) := by
 obtain ⟨pv, cv, rfl⟩ := h.shape
 obtain ⟨N, hN⟩ : ∃ N, N = gs.length := ⟨_, rfl⟩
 obtain ⟨i0, hi0, hz0, hz1, hz2⟩ := info_parts info28
 rw [<- hN] at hn ⊢
 replace h := zz h
 replace hN := zz hN
 replace hk3 := zz hk3
 go_enter Tryz.func40, Tryz.ntmps40
 go_wp2
 go_loopg [3, 9] N (fun k u3 u9 wr => ∃ (i : Nat) (po : Option Addr) (co : Nat), u3 = .slice po (i : Nat) co /\ u9 = .int .i64 i /\ i + k = N /\ AppS w (gs.take i) (.slice po (i : Nat) co) wr)
 case atStart => exact ⟨0, none, 0, rfl, rfl, by omega, AppS.start w⟩
 case round =>
  obtain ⟨i, po, co, rfl, rfl, hik, hS⟩ := hrel
  obtain ⟨W1, rfl⟩ : ∃ W1, W1 = wr := ⟨_, rfl⟩
  by_cases hi : i < N
  ·have hil : i < gs.length := by rw [<- hN.out]; exact hi
   obtain ⟨g, o, pa, ca, rfl, hA, e1, e2, e3, e4, e5, e6⟩ := h.out.get i hil
   have htk : gs.take (i + 1) = gs.take i ++ [gs[i]] := List.take_succ_eq_append_getElem hil
   have hk0 := hk3.out _ (List.getElem_mem hil)
   have htl : i = (gs.take i).length := by rw [List.length_take]; omega
   generalize gs[i]'hil = T0 at *
   obtain ⟨kind, sp, loc, ats, txt, pos⟩ := T0
   dsimp only at hA e1 e2 e3 e4 e5 e6 hk0
   obtain ⟨M, hM⟩ : ∃ M, M = ats.length := ⟨_, rfl⟩
   rw [<- hM] at hA e4
   replace e1 := hS.old.cell e1
   replace e2 := hS.old.cell e2
   replace e3 := hS.old.cell e3
   replace e4 := hS.old.cell e4
   replace e5 := hS.old.cell e5
   replace e6 := hS.old.cell e6
   have h3 : (kind == 3) = false := by rw [beq_eq_false_iff_ne]; exact hk0
   have hi2 : (i : Int) < (N : Int) := by omega
   have hI : IntKind.i64.wrap ((i : Int) + 1) = ((i + 1 : Nat) : Int) := by rw [IntWalk.i64_in _ (by omega)]; omega
   obtain ⟨R, hR⟩ : ∃ R, R = W1.heap.size := ⟨_, rfl⟩
   obtain ⟨W2, hW2⟩ : ∃ W2, W2 = W1.alloc (.cells #[.int .i64 kind, .string sp, .string loc, .slice pa (M : Nat) ca, .string txt, .int .i64 pos] 28) := ⟨_, rfl⟩
   have hb : Blk W2 R #[.int .i64 kind, .string sp, .string loc, .slice pa (M : Nat) ca, .string txt, .int .i64 pos] 28 := by rw [hW2, hR]; exact Blk.new W1 _ _
   have hS2 : AppS w (gs.take i) (.slice po (i : Nat) co) W2 := hS.of_old (by rw [hW2]; exact (Fr.refl _ W1).alloc _)
   have y0 : W2.cell? ⟨R, 0, none⟩ = some (.int .i64 kind) := by rw [hb.cell]; rfl
   have y1 : W2.cell? ⟨R, 1, none⟩ = some (.string sp) := by rw [hb.cell]; rfl
   have y2 : W2.cell? ⟨R, 2, none⟩ = some (.string loc) := by rw [hb.cell]; rfl
   have y3 : W2.cell? ⟨R, 3, none⟩ = some (.slice pa (M : Nat) ca) := by rw [hb.cell]; rfl
   have y4 : W2.cell? ⟨R, 4, none⟩ = some (.string txt) := by rw [hb.cell]; rfl
   have y5 : W2.cell? ⟨R, 5, none⟩ = some (.int .i64 pos) := by rw [hb.cell]; rfl
   obtain ⟨cs, hrow2, hT2⟩ := hS2.ex
   rw [<- htl] at hrow2
   have happ : ∀ (w12 : World) (g' c' : Nat), w12.ownsRow 0 28 6 (.slice (some ⟨g', 0, none⟩) (i + 1 : Nat) c') (i + 1) (cs ++ [.int .i64 kind, .string sp, .string loc, .slice pa (M : Nat) ca, .string txt, .int .i64 pos]) -> Fr (fun x => (Value.slice po (i : Nat) co).ownBlock = some x) W2 w12 -> ((Value.slice po (i : Nat) co).ownBlock = some g' \/ W2.heap.size <= g') -> AppS w (gs.take (i + 1)) (.slice (some ⟨g', 0, none⟩) (i + 1 : Nat) c') w12 := fun w12 g' c' er ef en => by
    rw [htk]
    exact hS2.app hT2 (t := ⟨kind, sp, loc, ats, txt, pos⟩) hA htl er ef en
   replace hik := zz hik
   replace hI := zz hI
   replace hrow2 := zz hrow2
   replace happ := zz happ
   replace hk0 := zz hk0
   clear hA hb hS hS2 hT2 hM htk htl
   go_upto_region 5 with fail
   rw [<- hW2, <- hR]
   replace hW2 := zz hW2
   replace hR := zz hR
   clear e1 e2 e3 e4 e5 e6
   go_wp2_with (at_builtin; refine wpList_append rfl _ _ 22 rfl 28 i0 _ 6 88 Tryz.underlying22 hi0 hz0 hz1 hz2 rfl (by decide) _ i cs (by rfl) (ownsRow_frame (F := fun _ => False) hrow2.out ((Fr.refl _ W2).alloc _) (fun _ _ h => h)) _ 1 1 [.int .i64 kind, .string sp, .string loc, .slice pa (M : Nat) ca, .string txt, .int .i64 pos] (by rfl) (by rfl) (by decide) (news_alloc _ [.int .i64 kind, .string sp, .string loc, .slice pa (M : Nat) ca, .string txt, .int .i64 pos] 28) (by intro u hu; simp at hu; rcases hu with rfl | rfl | rfl | rfl | rfl | rfl <;> rfl) (by unfold maxLen; omega) (by omega) ?_; intro g' c' w12 hrow' hgrow hnb; have f12 := ((Fr.refl (fun x => (Value.slice po (i : Nat) co).ownBlock = some x) W2).alloc _).grown hgrow (fun k hk => Or.inl hk); replace hrow' := zz hrow'; replace hnb := zz hnb; replace f12 := zz f12; clear hgrow)
   go_roundg (gk - 1)
   case measure => have := hik.out; omega
   case rel => exact ⟨i + 1, _, c', rfl, rfl, by have := hik.out; omega, happ.out w12 g' c' hrow'.out f12.out (hnb.out.imp id (fun h => by simp at h; omega))⟩
  ·have hi2 : ¬ (i : Int) < (N : Int) := by omega
   have hie : i = gs.length := by have := hN.out; omega
   replace hS := zz hS
   replace hik := zz hik
   replace hie := zz hie
   go_wp2
   go_ret
   refine ⟨_, rfl, hS.out.old, ?_⟩
   have := hS.out.fin
   rw [hie.out, List.take_length] at this
   rw [hie.out]
   exact this
def GT.solid (g : GT) : Bool := g.kind != 3
theorem solid_do (w : World) (lv : Value) (gs : List GT) (h : LG w lv gs) (hn : gs.length <= 300000) (hws : ∀ g ∈ gs, g.txt.size <= 549755813888 /\ (g.kind = 3 -> ∀ c ∈ g.txt.data.toList, isWs c = true)) :
  Calls Tryz.prog 13 #[lv] w fun e w' => ∃ lv', e = .returned lv' /\ Hid (Old w w' /\ RowA w' lv' (gs.filter GT.solid)) := by
 obtain ⟨pv, cv, rfl⟩ := h.shape
 obtain ⟨N, hN⟩ : ∃ N, N = gs.length := ⟨_, rfl⟩
 obtain ⟨i0, hi0, hz0, hz1, hz2⟩ := info_parts info28
 rw [<- hN] at hn ⊢
 replace h := zz h
 replace hN := zz hN
 replace hws := zz hws
 go_enter Tryz.func13, Tryz.ntmps13
 go_wp2
 go_loopg [3, 10] N (fun k u3 u10 wr => ∃ (i : Nat) (po : Option Addr) (m co : Nat), u3 = .slice po (m : Nat) co /\ u10 = .int .i64 i /\ i + k = N /\ m = ((gs.take i).filter GT.solid).length /\ AppS w ((gs.take i).filter GT.solid) (.slice po (m : Nat) co) wr)
 case atStart => exact ⟨0, none, 0, 0, rfl, rfl, by omega, rfl, AppS.start w⟩
 case round =>
  obtain ⟨i, po, m, co, rfl, rfl, hik, hm, hS⟩ := hrel
  obtain ⟨W1, rfl⟩ : ∃ W1, W1 = wr := ⟨_, rfl⟩
  by_cases hi : i < N
  ·have hil : i < gs.length := by rw [<- hN.out]; exact hi
   obtain ⟨g, o, pa, ca, rfl, hA, e1, e2, e3, e4, e5, e6⟩ := h.out.get i hil
   have htk : gs.take (i + 1) = gs.take i ++ [gs[i]] := List.take_succ_eq_append_getElem hil
   obtain ⟨htz, hwt⟩ := hws.out _ (List.getElem_mem hil)
   have hml : m <= 300000 := by
    have h1 := List.length_filter_le GT.solid (gs.take i)
    rw [List.length_take] at h1
    omega
   generalize gs[i]'hil = T0 at *
   obtain ⟨kind, sp, loc, ats, txt, pos⟩ := T0
   dsimp only at hA e1 e2 e3 e4 e5 e6 htz hwt
   obtain ⟨M, hM⟩ : ∃ M, M = ats.length := ⟨_, rfl⟩
   rw [<- hM] at hA e4
   replace e1 := hS.old.cell e1
   replace e2 := hS.old.cell e2
   replace e3 := hS.old.cell e3
   replace e4 := hS.old.cell e4
   replace e5 := hS.old.cell e5
   replace e6 := hS.old.cell e6
   have hi2 : (i : Int) < (N : Int) := by omega
   have hI : IntKind.i64.wrap ((i : Int) + 1) = ((i + 1 : Nat) : Int) := by rw [IntWalk.i64_in _ (by omega)]; omega
   obtain ⟨R, hR⟩ : ∃ R, R = W1.heap.size := ⟨_, rfl⟩
   obtain ⟨W2, hW2⟩ : ∃ W2, W2 = W1.alloc (.cells #[.int .i64 kind, .string sp, .string loc, .slice pa (M : Nat) ca, .string txt, .int .i64 pos] 28) := ⟨_, rfl⟩
   have hb : Blk W2 R #[.int .i64 kind, .string sp, .string loc, .slice pa (M : Nat) ca, .string txt, .int .i64 pos] 28 := by rw [hW2, hR]; exact Blk.new W1 _ _
   have hS2 : AppS w ((gs.take i).filter GT.solid) (.slice po (m : Nat) co) W2 := hS.of_old (by rw [hW2]; exact (Fr.refl _ W1).alloc _)
   have hyy : ∀ w2, Old W2 w2 -> w2.cell? ⟨R, 0, none⟩ = some (.int .i64 kind) /\ w2.cell? ⟨R, 1, none⟩ = some (.string sp) /\ w2.cell? ⟨R, 2, none⟩ = some (.string loc) /\ w2.cell? ⟨R, 3, none⟩ = some (.slice pa (M : Nat) ca) /\ w2.cell? ⟨R, 4, none⟩ = some (.string txt) /\ w2.cell? ⟨R, 5, none⟩ = some (.int .i64 pos) := fun w2 f => by
    have hb := hb.keep f (fun h => h)
    exact ⟨by rw [hb.cell]; rfl, by rw [hb.cell]; rfl, by rw [hb.cell]; rfl, by rw [hb.cell]; rfl, by rw [hb.cell]; rfl, by rw [hb.cell]; rfl⟩
   obtain ⟨b0, hb0⟩ : ∃ b : Bool, b = (kind != 3) := ⟨_, rfl⟩
   have hflt : (gs.take (i + 1)).filter GT.solid = (gs.take i).filter GT.solid ++ (if b0 then [⟨kind, sp, loc, ats, txt, pos⟩] else []) := by
    rw [htk, List.filter_append]
    congr 1
    have hs : GT.solid ⟨kind, sp, loc, ats, txt, pos⟩ = b0 := hb0.symm
    rw [List.filter_cons, hs]
    cases b0 <;> rfl
   have hspc : b0 = false -> ∀ j, j < txt.size -> ∃ c : UInt8, (∀ h : j < txt.size, (txt[j]'h).toNat = c.toNat) /\ isWs c = true := fun hbf j hj => by
    have hk : kind = 3 := by rw [hb0] at hbf; simpa using hbf
    refine ⟨txt.data.toList.getD j 0, fun h => get_data txt j h, hwt hk _ ?_⟩
    rw [List.getD_eq_getElem?_getD, List.getElem?_eq_getElem (by rw [<- Lib.size_eq]; exact hj)]
    exact List.getElem_mem _
   obtain ⟨y0, y1, y2, y3, y4, y5⟩ := hyy W2 (Fr.refl _ _)
   replace hik := zz hik
   replace hI := zz hI
   replace hS2 := zz hS2
   replace hyy := zz hyy
   replace hA := zz hA
   replace hflt := zz hflt
   replace hspc := zz hspc
   replace hm := zz hm
   replace hM := zz hM
   replace hb0 := zz hb0
   clear hb hS htk hwt
   go_upto_region 5 with fail
   rw [<- hW2, <- hR]
   replace hW2 := zz hW2
   replace hR := zz hR
   clear e1 e2 e3 e4 e5 e6
   obtain ⟨ko, rfl⟩ : ∃ ko, ko = gk := ⟨_, rfl⟩
   go_wp2
   go_loopg [6, 20] txt.size (fun k u6 u20 wr => ∃ j : Nat, u6 = .bool b0 /\ u20 = .int .i64 j /\ j + k = txt.size /\ Old W2 wr)
   case atStart => exact ⟨0, by rw [hb0.out], rfl, by omega, Fr.refl _ _⟩
   case round =>
    obtain ⟨j, rfl, rfl, hjk, hO3⟩ := hrel
    obtain ⟨y0, y1, y2, y3, y4, y5⟩ := hyy.out _ hO3
    by_cases hj : j < txt.size
    ·have hj2 : (j : Int) < (txt.size : Int) := by omega
     have hJ : IntKind.i64.wrap ((j : Int) + 1) = ((j + 1 : Nat) : Int) := by rw [IntWalk.i64_in _ (by omega)]; omega
     replace hjk := zz hjk
     cases b0 with
     | true =>
      replace hO3 := zz hO3
      go_wp2
      go_roundg (gk - 1)
      case measure => have := hjk.out; omega
      case rel => exact ⟨j + 1, rfl, rfl, by have := hjk.out; omega, hO3.out⟩
     | false =>
      obtain ⟨c, hc1, hc2⟩ := hspc.out rfl j hj
      have hs := (spSpace_do c wr).mono (R' := fun e w' => e = .returned (.bool true) /\ Hid (Old W2 w')) (fun e w' x => by rw [hc2] at x; exact ⟨x.1, hO3.old x.2.old⟩)
      generalize c.toNat = n at *
      replace hs := zz hs
      clear hO3 hc2
      go_wp2_with (go_at_call 28; refine hs.out.mono ?_; rintro e w4 ⟨rfl, k4⟩)
      go_roundg (gk - 1)
      case measure => have := hjk.out; omega
      case rel => exact ⟨j + 1, rfl, rfl, by have := hjk.out; omega, k4.out⟩
    ·have hj2 : ¬ (j : Int) < (txt.size : Int) := by omega
     have hS3 := hS2.out.of_old hO3
     cases b0 with
     | false =>
      have hS4 : AppS w ((gs.take (i + 1)).filter GT.solid) (.slice po (m : Nat) co) wr := by
       rw [hflt.out]; simpa using hS3
      have hm4 : m = ((gs.take (i + 1)).filter GT.solid).length := by rw [hflt.out]; simpa using hm.out
      replace hS4 := zz hS4
      replace hm4 := zz hm4
      clear hS3 hO3 hjk
      go_wp2
      go_roundg (ko - 1)
      case measure => have := hik.out; omega
      case rel => exact ⟨i + 1, po, m, co, rfl, rfl, by have := hik.out; omega, hm4.out, hS4.out⟩
     | true =>
      obtain ⟨cs, hrow2, hT2⟩ := hS3.ex
      rw [<- hm.out] at hrow2
      have hflt' : (gs.take (i + 1)).filter GT.solid = (gs.take i).filter GT.solid ++ [⟨kind, sp, loc, ats, txt, pos⟩] := by rw [hflt.out]; rfl
      have happ : ∀ (w12 : World) (g' c' : Nat), w12.ownsRow 0 28 6 (.slice (some ⟨g', 0, none⟩) (m + 1 : Nat) c') (m + 1) (cs ++ [.int .i64 kind, .string sp, .string loc, .slice pa (M : Nat) ca, .string txt, .int .i64 pos]) -> Fr (fun x => (Value.slice po (m : Nat) co).ownBlock = some x) wr w12 -> ((Value.slice po (m : Nat) co).ownBlock = some g' \/ wr.heap.size <= g') -> m + 1 = ((gs.take (i + 1)).filter GT.solid).length /\ AppS w ((gs.take (i + 1)).filter GT.solid) (.slice (some ⟨g', 0, none⟩) (m + 1 : Nat) c') w12 := fun w12 g' c' er ef en => by
       rw [hflt']
       exact ⟨by simp [hm.out], hS3.app hT2 (t := ⟨kind, sp, loc, ats, txt, pos⟩) hA.out hm.out er ef en⟩
      replace hrow2 := zz hrow2
      replace happ := zz happ
      clear hS3 hO3 hjk hT2 hflt'
      go_wp2_with (at_builtin; refine wpList_append rfl _ _ 22 rfl 28 i0 _ 6 88 Tryz.underlying22 hi0 hz0 hz1 hz2 rfl (by decide) _ m cs (by rfl) (ownsRow_frame (F := fun _ => False) hrow2.out ((Fr.refl _ wr).alloc _) (fun _ _ h => h)) _ 1 1 [.int .i64 kind, .string sp, .string loc, .slice pa (M : Nat) ca, .string txt, .int .i64 pos] (by rfl) (by rfl) (by decide) (news_alloc _ [.int .i64 kind, .string sp, .string loc, .slice pa (M : Nat) ca, .string txt, .int .i64 pos] 28) (by intro u hu; simp at hu; rcases hu with rfl | rfl | rfl | rfl | rfl | rfl <;> rfl) (by unfold maxLen; omega) (by omega) ?_; intro g' c' w12 hrow' hgrow hnb; have f12 := ((Fr.refl (fun x => (Value.slice po (m : Nat) co).ownBlock = some x) wr).alloc _).grown hgrow (fun k hk => Or.inl hk); replace hrow' := zz hrow'; replace hnb := zz hnb; replace f12 := zz f12; clear hgrow)
      go_roundg (ko - 1)
      case measure => have := hik.out; omega
      case rel =>
       obtain ⟨a1, a2⟩ := happ.out w12 g' c' hrow'.out f12.out (hnb.out.imp id (fun h => by simp at h; omega))
       exact ⟨i + 1, _, m + 1, c', rfl, rfl, by have := hik.out; omega, a1, a2⟩
  ·have hi2 : ¬ (i : Int) < (N : Int) := by omega
   have hie : i = gs.length := by have := hN.out; omega
   replace hS := zz hS
   replace hm := zz hm
   replace hik := zz hik
   replace hie := zz hie
   go_wp2
   go_ret
   refine ⟨_, rfl, hS.out.old, ?_⟩
   have := hS.out.fin
   rw [hie.out, List.take_length] at this
   exact this
end
section
open Go.RowKit
theorem alike_do (w : World) (kind : Int) (sp loc txt : ByteArray) (ats : List (ByteArray × ByteArray × ByteArray)) (pa pb : Option Addr) (ca cb : Nat) (p1 p2 : Int) (hA : AtL w (.slice pa (ats.length : Nat) ca) ats) (hB : AtL w (.slice pb (ats.length : Nat) cb) ats) :
  Calls Tryz.prog 41 #[.agg #[.int .i64 kind, .string sp, .string loc, .slice pa (ats.length : Nat) ca, .string txt, .int .i64 p1], .agg #[.int .i64 kind, .string sp, .string loc, .slice pb (ats.length : Nat) cb, .string txt, .int .i64 p2]] w fun e w' => e = .returned (.bool true) /\ Hid (Old w w') := by
 obtain ⟨M, hM⟩ : ∃ M, M = ats.length := ⟨_, rfl⟩
 have hMl : M <= 549755813888 := by rw [hM]; obtain ⟨_, _, _, _, h⟩ := hA.shape; exact h
 rw [<- hM] at hA hB ⊢
 obtain ⟨R, hR⟩ : ∃ R, R = w.heap.size := ⟨_, rfl⟩
 obtain ⟨W1, hW1⟩ : ∃ W1, W1 = w.alloc (.cells #[.int .i64 kind, .string sp, .string loc, .slice pa (M : Nat) ca, .string txt, .int .i64 p1] 28) := ⟨_, rfl⟩
 obtain ⟨W2, hW2⟩ : ∃ W2, W2 = W1.alloc (.cells #[.int .i64 kind, .string sp, .string loc, .slice pb (M : Nat) cb, .string txt, .int .i64 p2] 28) := ⟨_, rfl⟩
 have hR1 : W1.heap.size = R + 1 := by rw [hW1, hR]; simp
 have hb1 : Blk W1 R #[.int .i64 kind, .string sp, .string loc, .slice pa (M : Nat) ca, .string txt, .int .i64 p1] 28 := by rw [hW1, hR]; exact Blk.new w _ _
 have hb2 : Blk W2 (R + 1) #[.int .i64 kind, .string sp, .string loc, .slice pb (M : Nat) cb, .string txt, .int .i64 p2] 28 := by rw [hW2, <- hR1]; exact Blk.new W1 _ _
 have hO1 : Old w W1 := by rw [hW1]; exact (Fr.refl _ w).alloc _
 have hO12 : Old W1 W2 := by rw [hW2]; exact (Fr.refl _ W1).alloc _
 have hO2 : Old w W2 := hO1.trans hO12 (fun _ h => .inl h)
 have hb1' := hb1.keep hO12 (fun h => h)
 have y0 : W2.cell? ⟨R, 0, none⟩ = some (.int .i64 kind) := by rw [hb1'.cell]; rfl
 have y1 : W2.cell? ⟨R, 1, none⟩ = some (.string sp) := by rw [hb1'.cell]; rfl
 have y2 : W2.cell? ⟨R, 2, none⟩ = some (.string loc) := by rw [hb1'.cell]; rfl
 have y3 : W2.cell? ⟨R, 3, none⟩ = some (.slice pa (M : Nat) ca) := by rw [hb1'.cell]; rfl
 have y4 : W2.cell? ⟨R, 4, none⟩ = some (.string txt) := by rw [hb1'.cell]; rfl
 have z0 : W2.cell? ⟨R + 1, 0, none⟩ = some (.int .i64 kind) := by rw [hb2.cell]; rfl
 have z1 : W2.cell? ⟨R + 1, 1, none⟩ = some (.string sp) := by rw [hb2.cell]; rfl
 have z2 : W2.cell? ⟨R + 1, 2, none⟩ = some (.string loc) := by rw [hb2.cell]; rfl
 have z3 : W2.cell? ⟨R + 1, 3, none⟩ = some (.slice pb (M : Nat) cb) := by rw [hb2.cell]; rfl
 have z4 : W2.cell? ⟨R + 1, 4, none⟩ = some (.string txt) := by rw [hb2.cell]; rfl
 replace hM := zz hM
 replace hA := zz hA
 replace hB := zz hB
 replace hO2 := zz hO2
 replace hb1' := zz hb1'
 replace hb2 := zz hb2
 clear hO1 hO12 hb1
 go_enter Tryz.func41, Tryz.ntmps41
 go_upto_region 1 with fail
 rw [<- hW1, <- hR, <- hW2]
 replace hW1 := zz hW1
 replace hW2 := zz hW2
 replace hR := zz hR
 replace hR1 := zz hR1
 go_wp2
 go_loopg [44] M (fun k u44 wr => ∃ j : Nat, u44 = .int .i64 j /\ j + k = M /\ Old W2 wr)
 case atStart => exact ⟨0, rfl, by omega, Fr.refl _ _⟩
 case round =>
  obtain ⟨j, rfl, hjk, hO3⟩ := hrel
  obtain ⟨W3, rfl⟩ : ∃ W3, W3 = wr := ⟨_, rfl⟩
  by_cases hj : j < M
  ·have hO23 := hO2.out.trans hO3 (fun _ h => .inl h)
   have hA3 := hA.out.old hO23
   have hB3 := hB.out.old hO23
   obtain ⟨ga, oa, rfl, q0, q1, q2⟩ := hA3.get j (by have := hM.out; omega)
   obtain ⟨gb, ob, rfl, r0, r1, r2⟩ := hB3.get j (by have := hM.out; omega)
   generalize ats[j]'(by have := hM.out; omega) = aj at q0 q1 q2 r0 r1 r2
   obtain ⟨sj, lj, vj⟩ := aj
   dsimp only at q0 q1 q2 r0 r1 r2
   have x3 : W3.cell? ⟨R, 3, none⟩ = some (.slice (some ⟨ga, oa, none⟩) (M : Nat) ca) := by rw [(hb1'.out.keep hO3 (fun h => h)).cell]; rfl
   have x4 : W3.cell? ⟨R + 1, 3, none⟩ = some (.slice (some ⟨gb, ob, none⟩) (M : Nat) cb) := by rw [(hb2.out.keep hO3 (fun h => h)).cell]; rfl
   have hj2 : (j : Int) < (M : Int) := by omega
   have hI : IntKind.i64.wrap ((j : Int) + 1) = ((j + 1 : Nat) : Int) := by rw [IntWalk.i64_in _ (by omega)]; omega
   have hO3n := fun n => hO3.drewN n
   replace hI := zz hI
   replace hO3n := zz hO3n
   replace hjk := zz hjk
   clear hA3 hB3 hO23 hO3 y0 y1 y2 y3 y4 z0 z1 z2 z3 z4
   go_wp2
   go_quiet (fail)
   go_wp2
   go_roundg (gk - 1)
   case measure => have := hjk.out; omega
   case rel => exact ⟨j + 1, rfl, by have := hjk.out; omega, hO3n.out _⟩
  ·have hj2 : ¬ (j : Int) < (M : Int) := by omega
   have hO23 := zz (hO2.out.trans hO3 (fun _ h => .inl h))
   clear hO3 hjk
   go_wp2
   go_ret
   exact ⟨rfl, hO23⟩
end
section
open Go.RowKit
def findR (n : Nat) : Code -> Option Code
 | .region id ops b => if id = n then some (.region id ops b) else none
 | .loop c => findR n c
 | .seq a b => match findR n a with
  | some c => some c
  | none => findR n b
 | .block _ c => findR n c
 | .scope c => findR n c
 | .cond _ a b => match findR n a with
  | some c => some c
  | none => findR n b
 | _ => none
noncomputable def reg12 : Code := ((Tryz.f12.body.bind (findR 7)).getD .skip)
def vals12 (l1 l2 ag1 ag2 : Value) (p1 p2 : Addr) (j : Nat) : Nat -> Option Value
 | 0 => some l1
 | 1 => some (.int .i64 j)
 | 2 => some (.pointer (some p1))
 | 3 => some ag1
 | 4 => some l2
 | 5 => some (.int .i64 j)
 | 6 => some (.pointer (some p2))
 | 7 => some ag2
 | 8 => some (.bool true)
 | 9 | 10 | 11 | 12 | 24 | 25 => some (.bool false)
 | _ => none
theorem reg12_do {g1 g2 c1 c2 N j : Nat} {w : World} {f : Act} {kind : Int} {sp loc txt : ByteArray} {av1 av2 : Value} {p1 p2 : Int} (hsz : f.tmps.size = 49)
  (f0 : f.tmps[0]? = some (.slice (some ⟨g1, 0, none⟩) (N : Nat) c1)) (f1 : f.tmps[1]? = some (.slice (some ⟨g2, 0, none⟩) (N : Nat) c2)) (f2 : f.tmps[2]? = some (.bool false)) (f7 : f.tmps[7]? = some (.int .i64 j)) (hj : j < N) (hN : N <= 549755813888)
  (a0 : w.cell? ⟨g1, j * 6, none⟩ = some (.int .i64 kind)) (a1 : w.cell? ⟨g1, j * 6 + 1, none⟩ = some (.string sp)) (a2 : w.cell? ⟨g1, j * 6 + 2, none⟩ = some (.string loc)) (a3 : w.cell? ⟨g1, j * 6 + 3, none⟩ = some av1) (a4 : w.cell? ⟨g1, j * 6 + 4, none⟩ = some (.string txt)) (a5 : w.cell? ⟨g1, j * 6 + 5, none⟩ = some (.int .i64 p1))
  (b0 : w.cell? ⟨g2, j * 6, none⟩ = some (.int .i64 kind)) (b1 : w.cell? ⟨g2, j * 6 + 1, none⟩ = some (.string sp)) (b2 : w.cell? ⟨g2, j * 6 + 2, none⟩ = some (.string loc)) (b3 : w.cell? ⟨g2, j * 6 + 3, none⟩ = some av2) (b4 : w.cell? ⟨g2, j * 6 + 4, none⟩ = some (.string txt)) (b5 : w.cell? ⟨g2, j * 6 + 5, none⟩ = some (.int .i64 p2))
  (hal : ∀ w1, Old w w1 -> Calls Tryz.prog 41 #[.agg #[.int .i64 kind, .string sp, .string loc, av1, .string txt, .int .i64 p1], .agg #[.int .i64 kind, .string sp, .string loc, av2, .string txt, .int .i64 p2]] w1 fun e w' => e = .returned (.bool true) /\ Hid (Old w1 w'))
  {Q : Exit -> Act -> World -> Prop} (hQ : ∀ a w', Rest 22 48 f a -> a.tmps[47]? = some (.bool false) -> Old w w' -> Q .normal a w') : reg12.wp Tryz.prog Q f w := by
 conv => arg 2; whnf
 obtain ⟨vals, hvals⟩ : ∃ vals, vals = vals12 (.slice (some ⟨g1, 0, none⟩) (N : Nat) c1) (.slice (some ⟨g2, 0, none⟩) (N : Nat) c2) (.agg #[.int .i64 kind, .string sp, .string loc, av1, .string txt, .int .i64 p1]) (.agg #[.int .i64 kind, .string sp, .string loc, av2, .string txt, .int .i64 p2]) ⟨g1, j * 6, none⟩ ⟨g2, j * 6, none⟩ j := ⟨_, rfl⟩
 have hlt : ∀ i v, vals i = some v -> i < 26 := fun i v h => by
  rcases Nat.lt_or_ge i 26 with h1 | h1
  ·exact h1
  ·obtain ⟨k, rfl⟩ : ∃ k, i = k + 26 := ⟨i - 26, by omega⟩
   rw [hvals] at h; simp [vals12] at h
 refine wp_region_inv (SV 22 48 vals w f) (by kernel_rfl) (by kernel_rfl) (fun L L' a w e h => h.congr 26 hlt e) ?_ ?_ ?_
 ·exact ⟨Rest.refl _ _ _, (Fr.refl _ w).drew, fun i v _ h => by cases h⟩
 ·refine ⟨?_, ?_, ?_, ?_, ?_, ?_, ?_, ?_, ?_, ?_, ?_, ?_, ?_, ?_, ?_, ?_, ?_, ?_, ?_, ?_, ?_, ?_, ?_, ?_, ?_, ?_, trivial⟩
  all_goals intro L a w1 hk hd hS K hK
  all_goals have s0 : a.tmps[0]? = some (.slice (some ⟨g1, 0, none⟩) (N : Nat) c1) := (hS.rest.slot 0 (.inl (by decide))).trans f0
  all_goals have s1 : a.tmps[1]? = some (.slice (some ⟨g2, 0, none⟩) (N : Nat) c2) := (hS.rest.slot 1 (.inl (by decide))).trans f1
  all_goals have s2 : a.tmps[2]? = some (.bool false) := (hS.rest.slot 2 (.inl (by decide))).trans f2
  all_goals have s7 : a.tmps[7]? = some (.int .i64 j) := (hS.rest.slot 7 (.inl (by decide))).trans f7
  ·
   refine op_value rfl (w' := w1) ?_ (hK _ _ (hS.put 0 _ (by rw [hvals]; intro u h; exact Option.some.inj h) (by decide) (by omega) (Fr.refl _ _)))
   clear hK hS hd hal hQ
   go_simp
  ·
   refine op_value rfl (w' := w1) ?_ (hK _ _ (hS.put 1 _ (by rw [hvals]; intro u h; exact Option.some.inj h) (by decide) (by omega) (Fr.refl _ _)))
   clear hK hS hd hal hQ
   go_simp
  ·
   have x0 := hS.val 0 _ (by rw [hvals]; rfl) (hd 0 (by decide))
   rw [show 22 + 0 = 22 from rfl] at x0
   have x1 := hS.val 1 _ (by rw [hvals]; rfl) (hd 1 (by decide))
   rw [show 22 + 1 = 23 from rfl] at x1
   have i1 : (j : Int) < (N : Int) := by omega
   refine op_value rfl (w' := w1) ?_ (hK _ _ (hS.put 2 _ (by rw [hvals]; intro u h; exact Option.some.inj h) (by decide) (by omega) (Fr.refl _ _)))
   clear hK hS hd hal hQ
   go_simp
  ·
   have x2 := hS.val 2 _ (by rw [hvals]; rfl) (hd 2 (by decide))
   rw [show 22 + 2 = 24 from rfl] at x2
   have c0 := hS.old.cell a0
   have c1 := hS.old.cell a1
   have c2 := hS.old.cell a2
   have c3 := hS.old.cell a3
   have c4 := hS.old.cell a4
   have c5 := hS.old.cell a5
   refine op_value rfl (w' := w1) ?_ (hK _ _ (hS.put 3 _ (by rw [hvals]; intro u h; exact Option.some.inj h) (by decide) (by omega) (Fr.refl _ _)))
   clear hK hS hd hal hQ
   go_simp
  ·
   refine op_value rfl (w' := w1) ?_ (hK _ _ (hS.put 4 _ (by rw [hvals]; intro u h; exact Option.some.inj h) (by decide) (by omega) (Fr.refl _ _)))
   clear hK hS hd hal hQ
   go_simp
  ·
   refine op_value rfl (w' := w1) ?_ (hK _ _ (hS.put 5 _ (by rw [hvals]; intro u h; exact Option.some.inj h) (by decide) (by omega) (Fr.refl _ _)))
   clear hK hS hd hal hQ
   go_simp
  ·
   have x4 := hS.val 4 _ (by rw [hvals]; rfl) (hd 4 (by decide))
   rw [show 22 + 4 = 26 from rfl] at x4
   have x5 := hS.val 5 _ (by rw [hvals]; rfl) (hd 5 (by decide))
   rw [show 22 + 5 = 27 from rfl] at x5
   have i1 : (j : Int) < (N : Int) := by omega
   refine op_value rfl (w' := w1) ?_ (hK _ _ (hS.put 6 _ (by rw [hvals]; intro u h; exact Option.some.inj h) (by decide) (by omega) (Fr.refl _ _)))
   clear hK hS hd hal hQ
   go_simp
  ·
   have x6 := hS.val 6 _ (by rw [hvals]; rfl) (hd 6 (by decide))
   rw [show 22 + 6 = 28 from rfl] at x6
   have c0 := hS.old.cell b0
   have c1 := hS.old.cell b1
   have c2 := hS.old.cell b2
   have c3 := hS.old.cell b3
   have c4 := hS.old.cell b4
   have c5 := hS.old.cell b5
   refine op_value rfl (w' := w1) ?_ (hK _ _ (hS.put 7 _ (by rw [hvals]; intro u h; exact Option.some.inj h) (by decide) (by omega) (Fr.refl _ _)))
   clear hK hS hd hal hQ
   go_simp
  ·
   have x3 := hS.val 3 _ (by rw [hvals]; rfl) (hd 3 (by decide))
   rw [show 22 + 3 = 25 from rfl] at x3
   have x7 := hS.val 7 _ (by rw [hvals]; rfl) (hd 7 (by decide))
   rw [show 22 + 7 = 29 from rfl] at x7
   have hc := hal w1 hS.old
   refine op_call rfl (R := fun e w' => e = .returned (.bool true) /\ Hid (Old w1 w')) (fn := 41) (args := #[.agg #[.int .i64 kind, .string sp, .string loc, av1, .string txt, .int .i64 p1], .agg #[.int .i64 kind, .string sp, .string loc, av2, .string txt, .int .i64 p2]]) ?_ hc (fun e w' h => ⟨_, h.1, hK _ _ (hS.put 8 _ (by rw [hvals]; intro u h; exact Option.some.inj h) (by decide) (by omega) h.2.out)⟩)
   clear hK hS hd hal hc hQ
   go_simp
  ·
   have x8 := hS.val 8 _ (by rw [hvals]; rfl) (hd 8 (by decide))
   rw [show 22 + 8 = 30 from rfl] at x8
   refine op_value rfl (w' := w1) ?_ (hK _ _ (hS.put 9 _ (by rw [hvals]; intro u h; exact Option.some.inj h) (by decide) (by omega) (Fr.refl _ _)))
   clear hK hS hd hal hQ
   go_simp
  ·
   have x9 := hS.val 9 _ (by rw [hvals]; rfl) (hd 9 (by decide))
   rw [show 22 + 9 = 31 from rfl] at x9
   refine op_value rfl (w' := w1) ?_ (hK _ _ (hS.put 10 _ (by rw [hvals]; intro u h; exact Option.some.inj h) (by decide) (by omega) (Fr.refl _ _)))
   clear hK hS hd hal hQ
   go_simp
  ·
   have x10 := hS.val 10 _ (by rw [hvals]; rfl) (hd 10 (by decide))
   rw [show 22 + 10 = 32 from rfl] at x10
   refine op_yes (by simp only [Region.wanted, yielded]; simp [x10]) (w' := w1) ?_ (hK _ _ (hS.put 11 _ (by rw [hvals]; intro u h; exact Option.some.inj h) (by decide) (by omega) (Fr.refl _ _)))
   clear hK hS hd hal hQ
   go_simp
  ·
   have x11 := hS.val 11 _ (by rw [hvals]; rfl) (hd 11 (by decide))
   rw [show 22 + 11 = 33 from rfl] at x11
   have x10 := hS.val 10 _ (by rw [hvals]; rfl) (hd 10 (by decide))
   rw [show 22 + 10 = 32 from rfl] at x10
   refine op_yes (by simp only [Region.wanted, yielded]; simp [x10]) (w' := w1) ?_ (hK _ _ (hS.put 12 _ (by rw [hvals]; intro u h; exact Option.some.inj h) (by decide) (by omega) (Fr.refl _ _)))
   clear hK hS hd hal hQ
   go_simp
  ·
   have x12 := hS.val 12 _ (by rw [hvals]; rfl) (hd 12 (by decide))
   rw [show 22 + 12 = 34 from rfl] at x12
   refine op_not (by simp only [Region.wanted, yielded]; simp [x12]) (hK _ _ (hS.put 13 undef (by rw [hvals]; intro u h; cases h) (by decide) (by omega) (Fr.refl _ _)))
  ·
   have x12 := hS.val 12 _ (by rw [hvals]; rfl) (hd 12 (by decide))
   rw [show 22 + 12 = 34 from rfl] at x12
   refine op_not (by simp only [Region.wanted, yielded]; simp [x12]) (hK _ _ (hS.put 14 undef (by rw [hvals]; intro u h; cases h) (by decide) (by omega) (Fr.refl _ _)))
  ·
   have x12 := hS.val 12 _ (by rw [hvals]; rfl) (hd 12 (by decide))
   rw [show 22 + 12 = 34 from rfl] at x12
   refine op_not (by simp only [Region.wanted, yielded]; simp [x12]) (hK _ _ (hS.put 15 undef (by rw [hvals]; intro u h; cases h) (by decide) (by omega) (Fr.refl _ _)))
  ·
   have x12 := hS.val 12 _ (by rw [hvals]; rfl) (hd 12 (by decide))
   rw [show 22 + 12 = 34 from rfl] at x12
   refine op_not (by simp only [Region.wanted, yielded]; simp [x12]) (hK _ _ (hS.put 16 undef (by rw [hvals]; intro u h; cases h) (by decide) (by omega) (Fr.refl _ _)))
  ·
   have x12 := hS.val 12 _ (by rw [hvals]; rfl) (hd 12 (by decide))
   rw [show 22 + 12 = 34 from rfl] at x12
   refine op_not (by simp only [Region.wanted, yielded]; simp [x12]) (hK _ _ (hS.put 17 undef (by rw [hvals]; intro u h; cases h) (by decide) (by omega) (Fr.refl _ _)))
  ·
   have x12 := hS.val 12 _ (by rw [hvals]; rfl) (hd 12 (by decide))
   rw [show 22 + 12 = 34 from rfl] at x12
   refine op_not (by simp only [Region.wanted, yielded]; simp [x12]) (hK _ _ (hS.put 18 undef (by rw [hvals]; intro u h; cases h) (by decide) (by omega) (Fr.refl _ _)))
  ·
   have x12 := hS.val 12 _ (by rw [hvals]; rfl) (hd 12 (by decide))
   rw [show 22 + 12 = 34 from rfl] at x12
   refine op_not (by simp only [Region.wanted, yielded]; simp [x12]) (hK _ _ (hS.put 19 undef (by rw [hvals]; intro u h; cases h) (by decide) (by omega) (Fr.refl _ _)))
  ·
   have x12 := hS.val 12 _ (by rw [hvals]; rfl) (hd 12 (by decide))
   rw [show 22 + 12 = 34 from rfl] at x12
   refine op_not (by simp only [Region.wanted, yielded]; simp [x12]) (hK _ _ (hS.put 20 undef (by rw [hvals]; intro u h; cases h) (by decide) (by omega) (Fr.refl _ _)))
  ·
   have x12 := hS.val 12 _ (by rw [hvals]; rfl) (hd 12 (by decide))
   rw [show 22 + 12 = 34 from rfl] at x12
   refine op_not (by simp only [Region.wanted, yielded]; simp [x12]) (hK _ _ (hS.put 21 undef (by rw [hvals]; intro u h; cases h) (by decide) (by omega) (Fr.refl _ _)))
  ·
   have x12 := hS.val 12 _ (by rw [hvals]; rfl) (hd 12 (by decide))
   rw [show 22 + 12 = 34 from rfl] at x12
   refine op_not (by simp only [Region.wanted, yielded]; simp [x12]) (hK _ _ (hS.put 22 undef (by rw [hvals]; intro u h; cases h) (by decide) (by omega) (Fr.refl _ _)))
  ·
   have x12 := hS.val 12 _ (by rw [hvals]; rfl) (hd 12 (by decide))
   rw [show 22 + 12 = 34 from rfl] at x12
   refine op_not (by simp only [Region.wanted, yielded]; simp [x12]) (hK _ _ (hS.put 23 undef (by rw [hvals]; intro u h; cases h) (by decide) (by omega) (Fr.refl _ _)))
  ·
   have x10 := hS.val 10 _ (by rw [hvals]; rfl) (hd 10 (by decide))
   rw [show 22 + 10 = 32 from rfl] at x10
   have x12 := hS.val 12 _ (by rw [hvals]; rfl) (hd 12 (by decide))
   rw [show 22 + 12 = 34 from rfl] at x12
   refine op_yes (by simp only [Region.wanted, yielded]; simp [x10]) (w' := w1) ?_ (hK _ _ (hS.put 24 _ (by rw [hvals]; intro u h; exact Option.some.inj h) (by decide) (by omega) (Fr.refl _ _)))
   clear hK hS hd hal hQ
   go_simp
  ·
   have x10 := hS.val 10 _ (by rw [hvals]; rfl) (hd 10 (by decide))
   rw [show 22 + 10 = 32 from rfl] at x10
   have x24 := hS.val 24 _ (by rw [hvals]; rfl) (hd 24 (by decide))
   rw [show 22 + 24 = 46 from rfl] at x24
   refine op_value rfl (w' := w1) ?_ (hK _ _ (hS.put 25 _ (by rw [hvals]; intro u h; exact Option.some.inj h) (by decide) (by omega) (Fr.refl _ _)))
   clear hK hS hd hal hQ
   go_simp
 ·intro a w' h
  exact hQ a w' h.rest (h.val 25 _ (by rw [hvals]; rfl) rfl) h.old
end
end Go.Proofs.YtepbbahdhhjibaaGreatDoor
