/- own text -/
import Derived.Laws.AppendOwnNone
import Derived.Test.YtepbbahdhhjibaaGreatDoorC42
namespace Go.Proofs.YtepbbahdhhjibaaGreatDoor
set_option linter.unusedSimpArgs false
set_option linter.unusedVariables false
set_option maxHeartbeats 8000000
set_option maxRecDepth 100000
open Go.RowKit
def FailQ (P : Nat) (s : ByteArray) (base : Nat) (w w' : World) : Prop := (∃ a q vd, vd ≠ 0 /\ PB w' P s a q vd) /\ Fr (fun x => base <= x) w w'
theorem frB {P base : Nat} {w w' : World} (f : FrP P w w') (hP : base <= P) : Fr (fun x => base <= x) w w' := f.mono (fun x hx => .inl (by subst hx; exact hP))
theorem FailP.q {P : Nat} {s : ByteArray} {q : PV} {base : Nat} {w w' : World} (h : FailP P s q w w') (hP : base <= P) : FailQ P s base w w' := by
 obtain ⟨⟨a, vd, _, h2, h3, h4⟩⟩ := h
 exact ⟨⟨a, q, vd, h2, h3⟩, frB h4 hP⟩
theorem FailQ.from {P : Nat} {s : ByteArray} {base : Nat} {w0 w w' : World} (h : FailQ P s base w w') (f : Fr (fun x => base <= x) w0 w) : FailQ P s base w0 w' := ⟨h.1, f.trans h.2 (fun _ hx => .inl hx)⟩
theorem info30 : (Tryz.prog.info? 30).map (fun i => (i.zero, i.size, i.bytes)) = some (some (.agg #[.string ⟨#[]⟩, .string ⟨#[]⟩, .string ⟨#[]⟩]), 3, 48) := by kernel_rfl
theorem own_empty (w : World) (e : TypeId) (size : Nat) : (w.alloc (.cells #[] e)).ownsRow 0 e size (.slice (some ⟨w.heap.size, 0, none⟩) 0 0) 0 [] :=
 ⟨by simp, .inr ⟨w.heap.size, 0, #[], rfl, Nat.zero_le _, Blk.new w #[] e, Nat.le_refl _, Nat.zero_le _, by simp, by simp⟩⟩
theorem atsC_len (l : List (ByteArray × ByteArray × ByteArray)) : (atsC l).length = l.length * 3 := by
 induction l with
 | nil => rfl
 | cons x l ih =>
  have e : atsC (x :: l) = .string x.1 :: .string x.2.1 :: .string x.2.2 :: atsC l := rfl
  rw [e, List.length_cons, List.length_cons, List.length_cons, ih, List.length_cons]; omega
theorem atsC_one (l : List (ByteArray × ByteArray × ByteArray)) : ∀ u ∈ atsC l, u.oneCell' = true := by
 intro u hu
 obtain ⟨x, _, hx⟩ := List.mem_flatMap.1 hu
 simp at hx
 rcases hx with rfl | rfl | rfl <;> rfl
theorem atsC_get : ∀ (l : List (ByteArray × ByteArray × ByteArray)) (i : Nat) (h : i < l.length), (atsC l)[i * 3]? = some (.string l[i].1) /\ (atsC l)[i * 3 + 1]? = some (.string l[i].2.1) /\ (atsC l)[i * 3 + 2]? = some (.string l[i].2.2) := by
 intro l
 induction l with
 | nil => intro i h; exact absurd h (Nat.not_lt_zero _)
 | cons x l ih =>
  intro i hi
  cases i with
  | zero => exact ⟨rfl, rfl, rfl⟩
  | succ i =>
   obtain ⟨e1, e2, e3⟩ := ih i (by simpa using hi)
   have e : atsC (x :: l) = .string x.1 :: .string x.2.1 :: .string x.2.2 :: atsC l := rfl
   rw [e, show (i + 1) * 3 = i * 3 + 1 + 1 + 1 by omega]
   exact ⟨by simpa using e1, by simpa using e2, by simpa using e3⟩
theorem atsC_set : ∀ {l : List (ByteArray × ByteArray × ByteArray)} {i : Nat} {sp lo vl r : ByteArray}, i < l.length -> l[i]? = some (sp, lo, vl) -> atsC (l.set i (r, lo, vl)) = (atsC l).set (i * 3) (.string r) := by
 intro l
 induction l with
 | nil => intro i _ _ _ _ h; exact absurd h (Nat.not_lt_zero _)
 | cons x l ih =>
  intro i sp lo vl r hi hx
  have e : ∀ (x : ByteArray × ByteArray × ByteArray) l, atsC (x :: l) = .string x.1 :: .string x.2.1 :: .string x.2.2 :: atsC l := fun _ _ => rfl
  cases i with
  | zero =>
   have hx' : x = (sp, lo, vl) := by simpa using hx
   subst hx'
   simp [e]
  | succ i =>
   rw [List.set_cons_succ, e, e, ih (by simpa using hi) (by simpa using hx), show (i + 1) * 3 = i * 3 + 1 + 1 + 1 by omega]
   simp
theorem AtsR.set {ats l : List (ByteArray × ByteArray × ByteArray)} (h : AtsR ats l) {i : Nat} {sp lo vl r : ByteArray} (hx : l[i]? = some (sp, lo, vl)) (hr : r.size = 0 -> sp.size = 0) : AtsR ats (l.set i (r, lo, vl)) := by
 refine ⟨by rw [List.length_set]; exact h.len, fun j y hy => ?_⟩
 by_cases hij : i = j
 ·subst hij
  have hi := (List.getElem?_eq_some_iff.1 hx).1
  rw [List.getElem?_set_self hi] at hy
  obtain rfl := Option.some.inj hy
  obtain ⟨x, h1, h2, h3⟩ := h.ex i _ hx
  exact ⟨x, h1, fun e => h2 (hr e), h3⟩
 ·rw [List.getElem?_set_ne hij] at hy
  exact h.ex j y hy
theorem own_free {w : World} {e : TypeId} {size n : Nat} {v : Value} {xs : List Value} (h : w.ownsRow 0 e size v n xs) {g : Nat} (hg : v.ownBlock = some g) (i : Nat) : w.frozen? ⟨g, i, none⟩ = false := by
 rcases h.2 with ⟨rfl, _⟩ | ⟨g', cap, cur, rfl, _, hb, _⟩
 ·cases hg
 ·have e1 : g' = g := by simpa [Value.ownBlock] using hg
  subst e1
  exact Blk.fz hb i
structure OpnP (P : Nat) (s : ByteArray) (base a : Nat) (q : PV) (vd : Int) (gs : List GT) (opn : List ByteArray) (bnd : List (List (ByteArray × ByteArray))) (p l : ByteArray) (ats : List (ByteArray × ByteArray × ByteArray)) (empty : Bool) (w : World) (e : Ending) (w' : World) : Prop where
 ex : ∃ ok : Bool, e = .returned (.bool ok) /\ ((ok = false /\ FailQ P s base w w') \/ (ok = true /\ ∃ q' opn' bnd' ts, SQ P s base w' a q' vd (gs ++ ts) opn' bnd' /\ GoP P q w q' w' /\ BOk bnd' /\ bnd'.length = opn'.length /\ ∃ r ats', (r.size = 0 -> p.size = 0) /\ AtsR ats ats' /\ (p.size = 0 -> (l.toList == xmlnsL) = false) /\ ((empty = false /\ ts = [⟨1, r, l, ats', ⟨#[]⟩, (a : Nat)⟩] /\ opn' = opn ++ [colon p l]) \/ (empty = true /\ opn' = opn /\ ∃ r2, (r2.size = 0 -> p.size = 0) /\ ts = [⟨1, r, l, ats', ⟨#[]⟩, (a : Nat)⟩, ⟨2, r2, l, [], ⟨#[]⟩, (a : Nat)⟩]))))
theorem opened_do (P : Nat) (s : ByteArray) (base : Nat) (w : World) (a : Nat) (q : PV) (vd : Int) (gs : List GT) (opn : List ByteArray) (bnd : List (List (ByteArray × ByteArray))) (h : SQ P s base w a q vd gs opn bnd) (hn : gs.length <= 900000) (hbase : base <= w.heap.size) (haz : a <= s.size) (hok : BOk bnd) (hln : opn.length <= 900000) (hlb : bnd.length = opn.length) (p l : ByteArray) (hp : p.size <= 1000000) (hl : l.size <= 1000000) (av : Value) (ats : List (ByteArray × ByteArray × ByteArray)) (hav : AttrG w (SA P q) av ats) (hnn : ats = [] -> av = .slice none 0 0) (hal : ats.length <= 900000) (empty : Bool) :
  Calls Tryz.prog 135 #[.pointer (some ⟨P, 0, none⟩), .agg #[.int .i64 1, .string p, .string l, av, .string ⟨#[]⟩, .int .i64 0], .bool empty] w (OpnP P s base a q vd gs opn bnd p l ats empty w) := by
 have hPw := h.blk.lt
 have hP0 : base <= P := h.lo P (.inl rfl)
 obtain ⟨pa, ca, rfl⟩ := ownsRow_shape hav.row
 obtain ⟨N, hN⟩ : ∃ N, N = ats.length := ⟨_, rfl⟩
 have hat : ∀ w', Old w w' -> ∀ i (hi : i < ats.length), ∃ g, pa = some ⟨g, 0, none⟩ /\ w'.cell? ⟨g, i * 3, none⟩ = some (.string ats[i].1) /\ w'.cell? ⟨g, i * 3 + 1, none⟩ = some (.string ats[i].2.1) /\ w'.cell? ⟨g, i * 3 + 2, none⟩ = some (.string ats[i].2.2) := fun w' ho i hi => by
  obtain ⟨g, cap, hv, _, hc⟩ := ownsRow_some hav.row (by omega)
  obtain ⟨x1, x2, x3⟩ := atsC_get ats i hi
  exact ⟨g, by injection hv, ho.cell (hc _ _ x1), ho.cell (hc _ _ x2), ho.cell (hc _ _ x3)⟩
 obtain ⟨T, hT⟩ : ∃ T, T = w.heap.size := ⟨_, rfl⟩
 rw [<- hN] at hal ⊢
 obtain ⟨W0, hW0⟩ : ∃ W0, W0 = w.alloc (.cells #[.int .i64 1, .string p, .string l, .slice pa (N : Nat) ca, .string ⟨#[]⟩, .int .i64 0] 28) := ⟨_, rfl⟩
 have hO0 : Old w W0 := by rw [hW0]; exact (Fr.refl _ w).alloc _
 have hb0 : Blk W0 T #[.int .i64 1, .string p, .string l, .slice pa (N : Nat) ca, .string ⟨#[]⟩, .int .i64 0] 28 := by rw [hW0, hT]; exact Blk.new w _ _
 have hfl : ∀ w1, Old W0 w1 -> Calls Tryz.prog 82 #[.pointer (some ⟨P, 0, none⟩), .int .i64 2] w1 fun e w' => e = .returned (.bool false) /\ Hid (FailQ P s base w w') := fun w1 ho => (((SP.start h.blk).old hO0).old ho).fail 2 (by decide) haz |>.mono (fun e w' x => ⟨x.1, x.2.out.q hP0⟩)
 have hT0 : T < W0.heap.size := hb0.lt
 have hc : ∀ w1, Old W0 w1 -> (w1.cell? ⟨P, 2, none⟩ = some (.bool false) /\ w1.cell? ⟨T, 3, none⟩ = some (.slice pa (N : Nat) ca)) := fun w1 ho => by
  have h1 := (h.blk.keep hO0 (fun h => h)).keep ho (fun h => h)
  have h2 := hb0.keep ho (fun h => h)
  exact ⟨(PB.c h1).2.2.1, by rw [h2.cell]; rfl⟩
 have z1 : W0.cell? ⟨T, 1, none⟩ = some (.string p) := by rw [hb0.cell]; rfl
 have z2 : W0.cell? ⟨T, 2, none⟩ = some (.string l) := by rw [hb0.cell]; rfl
 have z0 := hc W0 (Fr.refl _ _)
 obtain ⟨c2, z3⟩ := z0
 have h' := zz h
 have hav' := zz hav
 have hnn' := zz hnn
 replace hN := zz hN
 replace hat := zz hat
 replace hW0 := zz hW0
 replace hO0 := zz hO0
 replace hb0 := zz hb0
 replace hfl := zz hfl
 replace hc := zz hc
 replace hok := zz hok
 replace hlb := zz hlb
 replace hbase := zz hbase
 clear h hav hnn
 go_enter Tryz.func135, Tryz.ntmps135
 go_upto_region 1 with fail
 rw [<- hW0.out, <- hT]
 replace hT := zz hT
 go_upto_region 2 with fail
 go_quiet (fail)
 obtain ⟨W1, hW1⟩ : ∃ W1, W1 = W0.drewN nq := ⟨_, rfl⟩
 rw [<- hW1]
 have hO1 : Old W0 W1 := by rw [hW1]; exact (Fr.refl _ W0).drewN nq
 obtain ⟨c2', z3'⟩ := hc.out W1 hO1
 replace hO1 := zz hO1
 replace hW1 := zz hW1
 clear z1 z2 c2 z3
 go_upto_region 3 with fail
 go_cut [32] from 27 to 32 (fun s32 wx => ∃ b : Bool, s32 = .bool b /\ wx = W1 /\ (b = false -> p.size = 0 -> (l.toList == xmlnsL) = false))
 case first =>
  by_cases hem : p.size = 0
  ·have y1 := toList_nil hem
   have y3 := List.isEmpty_iff.1 y1
   cases hlx : (l.toList == [120, 109, 108, 110, 115])
   ·replace hem := zz hem
    go_wp2_with fail
    all_goals go_meet
    all_goals exact ⟨_, rfl, rfl, fun _ _ => hlx⟩
   ·replace hem := zz hem
    go_wp2_with fail
    all_goals go_meet
    all_goals exact ⟨_, rfl, rfl, fun h => by cases h⟩
  ·replace hem := zz hem
   go_wp2_with fail
   all_goals go_meet
   all_goals exact ⟨_, rfl, rfl, fun _ hp => absurd hp hem.out⟩
 case rest =>
  obtain ⟨b, rfl, hw, hxm⟩ := hcut
  rw [hw]; clear hw wc
  replace hxm := zz hxm
  cases b with
  | true =>
   go_wp2_with (go_at_call 82; refine (hfl.out _ hO1.out).mono ?_; rintro e w1 ⟨rfl, k1⟩)
   go_ret
   exact ⟨⟨false, rfl, .inl ⟨rfl, k1.out⟩⟩⟩
  | false =>
   replace hxm := zz (hxm.out rfl)
   obtain ⟨i0, hi0, hz0, hz1, hz2⟩ := info_parts info275
   have hfl1 : ∀ w1, Old W1 w1 -> Calls Tryz.prog 82 #[.pointer (some ⟨P, 0, none⟩), .int .i64 2] w1 fun e w' => e = .returned (.bool false) /\ Hid (FailQ P s base w w') := fun w1 ho => hfl.out w1 (hO1.out.trans ho (fun _ h => .inl h))
   replace hfl1 := zz hfl1
   go_wp2
   go_loopg [9, 38] N (fun k u9 u38 wr => ∃ (i : Nat) (prs : List (ByteArray × ByteArray)), u38 = .int .i64 i /\ i + k = N /\ Old W1 wr /\ wr.ownsRow 0 275 2 u9 prs.length (prC prs) /\ (∀ k, u9.ownBlock = some k -> W1.heap.size <= k) /\ prs.length <= i /\ ∀ x ∈ prs, x.2.size = 0 -> x.1.size = 0)
   case atStart => exact ⟨0, [], rfl, by omega, Fr.refl _ _, World.ownsRow_nil _ _ _ _, fun k hk => (by cases hk), Nat.le_refl _, fun x hx => (by cases hx)⟩
   case round =>
    obtain ⟨i, prs, rfl, hik, hOr, hrow, hkr, hpi, hpr⟩ := hrel
    by_cases hi : i < N
    ·obtain ⟨g, rfl, q0, q1, q2⟩ := hat.out wr ((hO0.out.trans hO1.out (fun _ h => .inl h)).trans hOr (fun _ h => .inl h)) i (by have := hN.out; omega)
     generalize hax : ats[i]'(by have := hN.out; omega) = ax at q0 q1 q2
     obtain ⟨sp, lo, vl⟩ := ax
     have hI : IntKind.i64.wrap ((i : Int) + 1) = ((i + 1 : Nat) : Int) := by rw [IntWalk.i64_in _ (by omega)]; omega
     have hi2 : (i : Int) < (N : Int) := by omega
     have hAo : Old W1 (wr.alloc (.cells #[.string sp, .string lo, .string vl] 30)) := hOr.alloc _
     have hOr' := zz hOr
     have hrow' := zz hrow
     have hkr' := zz hkr
     have hpi' := zz hpi
     have hpr' := zz hpr
     replace hik := zz hik
     replace hi := zz hi
     replace hax := zz hax
     replace hAo := zz hAo
     clear hOr hrow hkr hpi hpr
     go_upto_region 9 with fail
     obtain ⟨WA, hWA⟩ : ∃ WA, WA = wr.alloc (.cells #[.string sp, .string lo, .string vl] 30) := ⟨_, rfl⟩
     have hbA : Blk WA wr.heap.size #[.string sp, .string lo, .string vl] 30 := by rw [hWA]; exact Blk.new wr _ _
     have hWr : Old wr WA := by rw [hWA]; exact (Fr.refl _ wr).alloc _
     rw [<- hWA] at hAo ⊢
     generalize wr.heap.size = R at *
     have y0 : WA.cell? ⟨R, 0, none⟩ = some (.string sp) := by rw [hbA.cell]; rfl
     have y1 : WA.cell? ⟨R, 1, none⟩ = some (.string lo) := by rw [hbA.cell]; rfl
     have y2 : WA.cell? ⟨R, 2, none⟩ = some (.string vl) := by rw [hbA.cell]; rfl
     replace hWA := zz hWA
     replace hWr := zz hWr
     clear hbA q0 q1 q2
     go_cut [54] from 42 to 54 (fun s54 wx => ∃ b : Bool, s54 = .bool b /\ wx = WA)
     case first =>
      go_wp2_with fail
      all_goals go_meet
      all_goals exact ⟨_, rfl, rfl⟩
     case rest =>
      obtain ⟨b, rfl, hw⟩ := hcut
      rw [hw]; clear hw wc
      cases b with
      | true =>
       go_wp2
       go_roundg (gk - 1)
       case measure => have := hik.out; have := hi.out; omega
       case rel => exact ⟨i + 1, prs, rfl, by have := hik.out; have := hi.out; omega, hAo.out, ownsRow_frame hrow'.out hWr.out (fun _ _ h => h), hkr'.out, by have := hpi'.out; omega, hpr'.out⟩
      | false =>
       cases hx : (sp.toList == [120, 109, 108, 110, 115])
       ·go_upto_region 13 with fail
        go_cut [84] from 60 to 84 (fun s84 wx => ∃ b : Bool, s84 = .bool b /\ wx = WA /\ (b = false -> vl.size = 0 -> (⟨#[]⟩ : ByteArray).size = 0))
        case first =>
         go_wp2_with fail
         all_goals go_meet
         all_goals exact ⟨_, rfl, rfl, fun _ _ => rfl⟩
        case rest =>
         obtain ⟨b, rfl, hw, hb⟩ := hcut
         rw [hw]; clear hw wc
         cases b with
         | true =>
          go_wp2_with (go_at_call 82; refine (hfl1.out _ hAo.out).mono ?_; rintro e w1 ⟨rfl, k1⟩)
          go_ret
          exact ⟨⟨false, rfl, .inl ⟨rfl, k1.out⟩⟩⟩
         | false =>
          have hbv := hb rfl
          replace hbv := zz hbv
          clear hb
          go_wp2_with (at_builtin; refine wpList_append rfl _ _ 84 rfl 275 i0 _ 2 32 Tryz.underlying84 hi0 hz0 hz1 hz2 rfl (by decide) _ prs.length _ (by rfl) (ownsRow_frame (F := fun _ => False) hrow'.out (hWr.out.alloc _) (fun _ _ h => h)) _ 1 1 [.string (⟨#[]⟩ : ByteArray), .string vl] (by rfl) (by rfl) (by decide) (news_alloc _ [.string (⟨#[]⟩ : ByteArray), .string vl] 275) (by intro u hu; simp at hu; rcases hu with rfl | rfl <;> rfl) (by have := hpi'.out; have := hi.out; unfold maxLen; omega) (by have := hpi'.out; have := hi.out; omega) ?_; intro g' c' w10 hrow2 hgrow hnb; have f10 := ((hWr.out.mono (G := fun x => u9.ownBlock = some x) (fun _ h => h.elim)).alloc _).grown hgrow (fun k hk => Or.inl hk); replace hrow2 := zz hrow2; replace hnb := zz hnb; replace f10 := zz f10; clear hgrow)
          go_roundg (gk - 1)
          case measure => have := hik.out; have := hi.out; omega
          case rel =>
           refine ⟨i + 1, prs ++ [((⟨#[]⟩ : ByteArray), vl)], rfl, by have := hik.out; have := hi.out; omega, ?_, ?_, ?_, ?_, ?_⟩
           ·exact hOr'.out.trans f10.out (fun x hx => Or.inr (hkr'.out x hx))
           ·have e1 : (prs ++ [((⟨#[]⟩ : ByteArray), vl)]).length = prs.length + 1 := by simp
            have e2 : prC (prs ++ [((⟨#[]⟩ : ByteArray), vl)]) = prC prs ++ [.string (⟨#[]⟩ : ByteArray), .string vl] := by simp [prC]
            rw [e1, e2]; exact hrow2.out
           ·intro k hk
            have hk2 : k = g' := by simpa [Value.ownBlock, eq_comm] using hk
            subst hk2
            rcases hnb.out with h | h
            ·exact hkr'.out _ h
            ·have := hOr'.out.size; have := hWr.out.size; simp at h; omega
           ·simp; have := hpi'.out; omega
           ·intro x hx
            rcases List.mem_append.1 hx with hx | hx
            ·exact hpr'.out x hx
            ·obtain rfl : x = ((⟨#[]⟩ : ByteArray), vl) := by simpa using hx
             exact fun _ => rfl
       ·go_upto_region 13 with fail
        go_cut [84] from 60 to 84 (fun s84 wx => ∃ b : Bool, s84 = .bool b /\ wx = WA /\ (b = false -> vl.size = 0 -> lo.size = 0))
        case first =>
         by_cases hem : vl.size = 0 /\ lo.size ≠ 0
         ·have y1 := toList_nil hem.1
          have y2 := toList_ne (Nat.pos_of_ne_zero hem.2)
          have y3 := List.isEmpty_iff.1 y1
          have y4 : ¬ lo.toList = [] := fun e => by rw [e] at y2; exact absurd y2 (by decide)
          replace hem := zz hem
          go_wp2_with fail
          all_goals go_meet
          all_goals exact ⟨_, rfl, rfl, fun h => by cases h⟩
         ·replace hem := zz hem
          go_wp2_with fail
          all_goals go_meet
          all_goals exact ⟨_, rfl, rfl, fun _ hv => Classical.byContradiction (fun hn => hem.out ⟨hv, hn⟩)⟩
        case rest =>
         obtain ⟨b, rfl, hw, hb⟩ := hcut
         rw [hw]; clear hw wc
         cases b with
         | true =>
          go_wp2_with (go_at_call 82; refine (hfl1.out _ hAo.out).mono ?_; rintro e w1 ⟨rfl, k1⟩)
          go_ret
          exact ⟨⟨false, rfl, .inl ⟨rfl, k1.out⟩⟩⟩
         | false =>
          have hbv := hb rfl
          replace hbv := zz hbv
          clear hb
          go_wp2_with (at_builtin; refine wpList_append rfl _ _ 84 rfl 275 i0 _ 2 32 Tryz.underlying84 hi0 hz0 hz1 hz2 rfl (by decide) _ prs.length _ (by rfl) (ownsRow_frame (F := fun _ => False) hrow'.out (hWr.out.alloc _) (fun _ _ h => h)) _ 1 1 [.string lo, .string vl] (by rfl) (by rfl) (by decide) (news_alloc _ [.string lo, .string vl] 275) (by intro u hu; simp at hu; rcases hu with rfl | rfl <;> rfl) (by have := hpi'.out; have := hi.out; unfold maxLen; omega) (by have := hpi'.out; have := hi.out; omega) ?_; intro g' c' w10 hrow2 hgrow hnb; have f10 := ((hWr.out.mono (G := fun x => u9.ownBlock = some x) (fun _ h => h.elim)).alloc _).grown hgrow (fun k hk => Or.inl hk); replace hrow2 := zz hrow2; replace hnb := zz hnb; replace f10 := zz f10; clear hgrow)
          go_roundg (gk - 1)
          case measure => have := hik.out; have := hi.out; omega
          case rel =>
           refine ⟨i + 1, prs ++ [(lo, vl)], rfl, by have := hik.out; have := hi.out; omega, ?_, ?_, ?_, ?_, ?_⟩
           ·exact hOr'.out.trans f10.out (fun x hx => Or.inr (hkr'.out x hx))
           ·have e1 : (prs ++ [(lo, vl)]).length = prs.length + 1 := by simp
            have e2 : prC (prs ++ [(lo, vl)]) = prC prs ++ [.string lo, .string vl] := by simp [prC]
            rw [e1, e2]; exact hrow2.out
           ·intro k hk
            have hk2 : k = g' := by simpa [Value.ownBlock, eq_comm] using hk
            subst hk2
            rcases hnb.out with h | h
            ·exact hkr'.out _ h
            ·have := hOr'.out.size; have := hWr.out.size; simp at h; omega
           ·simp; have := hpi'.out; omega
           ·intro x hx
            rcases List.mem_append.1 hx with hx | hx
            ·exact hpr'.out x hx
            ·obtain rfl : x = (lo, vl) := by simpa using hx
             exact hbv.out
    ·have hie : ¬ (i : Int) < (N : Int) := by omega
     have hOr' := zz hOr
     have hrow' := hrow
     have hkr' := zz hkr
     have hpi' : prs.length <= 900000 := by omega
     have hpr' := zz hpr
     obtain ⟨pv9, cv9, hv9⟩ := ownsRow_shape hrow
     subst hv9
     clear hOr hrow hkr hpi hpr hik hi
     go_upto_region 17 with fail
     have hOw : Old w wr := (hO0.out.trans hO1.out (fun _ h => .inl h)).trans hOr'.out (fun _ h => .inl h)
     obtain ⟨bs, hbs1, hbs2⟩ := h'.out.bnd
     have hH : H17 P q wr := by
      have hwr := hOw.size
      have hlt := h'.out.lt
      refine ⟨fun e => (h'.out.dp P e).1 rfl, fun e => h'.out.db P e rfl, fun k hk e => (h'.out.dp k e).2 hk, fun k hk => ?_, fun k hk => ?_, ?_⟩
      ·have := hlt k (.inr (.inr (.inl hk))); omega
      ·have := hlt k (.inr (.inr (.inr hk))); omega
      ·have := hlt P (.inl rfl); omega
     have hOw' := zz hOw
     refine wp_cut_rest 95 23 (R17 P s a q vd p l (.slice pv9 (prs.length : Nat) cv9) opn bnd.length bs wr) ?rest (Nat.le_of_ble_eq_true rfl) ?first
     case first =>
      intro J hJ
      exact reg135_do hH rfl rfl rfl rfl rfl ⟨_, _, _, rfl⟩ (h'.out.blk.keep hOw (fun h => h)) (ownsRow_frame h'.out.opn hOw (fun _ _ h => h)) (ownsRow_frame hbs1 hOw (fun _ _ h => h)) hln (by rw [hlb.out]; exact hln) hp hl (fun a w h => hJ a w h.rest h.fin)
     case rest =>
      intro us hus wa hcut
      obtain ⟨v0, v1, v2, v3, v4, v5, v6, v7, v8, v9, v10, v11, v12, v13, v14, v15, v16, v17, v18, v19, v20, v21, v22, rfl⟩ := list23 hus
      simp only [List.take_succ_cons, List.take_zero, List.drop_succ_cons, List.drop_zero, List.cons_append, List.nil_append]
      have hTr : T < wr.heap.size := by have := hO1.out.size; have := hOr'.out.size; omega
      obtain ⟨q', hSQ, hGo, hST⟩ := R17.sq (base := base) h'.out hOw hbase.out hbs2 hrow' T hT.out.symm hTr (fun k hk => by have := hkr'.out k hk; have := hO1.out.size; omega) (by omega) hcut
      obtain ⟨pv', bv', bP, fP, _⟩ := hcut.ex
      have hlt := h'.out.lt
      have hTq : T ≠ P /\ ¬ q.pv.ownBlock = some T /\ ¬ q.bv.ownBlock = some T := by
       have := hT.out
       refine ⟨fun e => ?_, fun e => ?_, fun e => ?_⟩
       ·have := hlt P (.inl rfl); omega
       ·have := hlt T (.inr (.inr (.inl e))); omega
       ·have := hlt T (.inr (.inr (.inr e))); omega
      have hT4 : Blk wa T #[.int .i64 1, .string p, .string l, .slice pa (N : Nat) ca, .string ⟨#[]⟩, .int .i64 0] 28 := ((hb0.out.keep hO1.out (fun h => h)).keep hOr'.out (fun h => h)).keep fP (fun e => by rcases e with e | e | e; exact hTq.1 e; exact hTq.2.1 e; exact hTq.2.2 e)
      have hwc : Fr (SO P q) w wa := hGo.fr
      have hwcs : T < wa.heap.size := hT4.lt
      have hSQ0 := hSQ wa (Fr.refl _ _)
      have hok2 : BOk (bnd ++ [prs]) := fun x hx => by
       rcases List.mem_append.1 hx with hx | hx
       ·exact hok.out x hx
       ·have : x = prs := by simpa using hx
        subst this; exact hpr'.out
      have hlb2 : (bnd ++ [prs]).length = (opn ++ [colon p l]).length := by simp [hlb.out]
      have hln2 : (opn ++ [colon p l]).length <= 1000000 := by simp; omega
      have hrs : ∀ (x : ByteArray) (b : Bool) (w1 : World), Fr (fun x => x = T) wa w1 -> Calls Tryz.prog 165 #[.pointer (some ⟨P, 0, none⟩), .string x, .bool b] w1 fun e w' => ∃ r : ByteArray, e = .returned (.string r) /\ RsP w1 w' r x := fun x b w1 f1 => resolve_do P s base w1 a q' vd gs _ _ (hSQ w1 f1) hok2 (by rw [hlb2]; exact hln2) x b
      have hTc : ∀ w1, Old wa w1 -> w1.cell? ⟨T, 1, none⟩ = some (.string p) /\ w1.frozen? ⟨T, 1, none⟩ = false := fun w1 ho => by
       have := hT4.keep ho (fun h => h)
       exact ⟨by rw [this.cell]; rfl, this.fz 1⟩
      have hrs0 := hrs p true wa (Fr.refl _ _)
      replace hrs0 := zz hrs0
      replace hrs := zz hrs
      replace hTc := zz hTc
      replace hT4 := zz hT4
      replace hok2 := zz hok2
      replace hlb2 := zz hlb2
      replace hln2 := zz hln2
      replace hSQ := zz hSQ
      replace hGo := zz hGo
      replace hST := zz hST
      replace hrow' := zz hrow'
      replace hTq := zz hTq
      replace hH := zz hH
      clear hSQ0 hwc fP bP hcut hlt hbs1 hbs2 hOw hus c2' z3' hie
      go_upto_region 19 with (go_at_call 165; refine hrs0.out.mono ?_; rintro e w1 ⟨r, rfl, k1⟩; obtain ⟨t1, t2⟩ := hTc.out _ k1.old; replace k1 := zz k1)
      clear t1 t2
      obtain ⟨W2, hW2⟩ : ∃ W2, W2 = w1.setCell ⟨T, 1, none⟩ (.string r) := ⟨_, rfl⟩
      rw [<- hW2]
      have hT5 : Blk W2 T #[.int .i64 1, .string r, .string l, .slice pa (N : Nat) ca, .string ⟨#[]⟩, .int .i64 0] 28 := by rw [hW2]; exact (hT4.out.keep k1.out.old (fun h => h)).set 1 _
      have hF2 : Fr (fun x => x = T) wa W2 := by rw [hW2]; exact Fr.set (F := fun x => x = T) (Fr.of_old k1.out.old) (Or.inl rfl) _ _
      have hT5c : ∀ w1, Old W2 w1 -> w1.cell? ⟨T, 3, none⟩ = some (.slice pa (N : Nat) ca) := fun w1 ho => by rw [(hT5.keep ho (fun h => h)).cell]; rfl
      have z3 := hT5c W2 (Fr.refl _ _)
      replace hT5 := zz hT5
      replace hF2 := zz hF2
      replace hW2 := zz hW2
      replace hT5c := zz hT5c
      go_cut [13] from 118 to 125 (fun s13 wx => ∃ g13 c13, s13 = .slice (some ⟨g13, 0, none⟩) (N : Nat) c13 /\ Old W2 wx /\ wx.ownsRow 0 30 3 (.slice (some ⟨g13, 0, none⟩) (N : Nat) c13) N (atsC ats) /\ W2.heap.size <= g13)
      case first =>
       have hTs : T < W2.heap.size := hT5.out.lt
       have hO2 : Fr (SO P q) w W2 := hGo.out.fr.trans hF2.out (fun x hx => Or.inr (by rw [hx, hT.out]; exact Nat.le_refl _))
       have hO3 : Old W2 (W2.alloc (.cells #[] 30)) := (Fr.refl _ W2).alloc _
       have hem : (W2.alloc (.cells #[] 30)).ownsRow 0 30 3 (.slice (some ⟨W2.heap.size, 0, none⟩) 0 0) 0 [] := own_empty W2 30 3
       obtain ⟨i0, hi0, hz0, hz1, hz2⟩ := info_parts info30
       rcases Nat.eq_zero_or_pos N with hN0 | hN0
       ·have ha0 : ats = [] := List.length_eq_zero_iff.1 (by have := hN.out; omega)
        have hnv := hnn'.out ha0
        rw [<- hN.out, hN0] at hnv
        injection hnv with hn1 hn2 hn3
        subst hn1
        subst hn3
        subst hN0
        go_wp2_with (at_builtin; refine wpList_append_own_none rfl _ _ 26 rfl 0 30 i0 3 Tryz.underlying26 hi0 _ 0 [] (by rfl) hem (by rfl) ?_)
        go_meet
        case rel => exact ⟨W2.heap.size, 0, rfl, hO3, by rw [ha0]; exact hem, Nat.le_refl _⟩
       ·have hrowA := ownsRow_frame hav'.out.row (hO2.old hO3) (fun k hk => hav'.out.own k hk)
        rw [<- hN.out] at hrowA
        obtain ⟨gA, capA, hvA, hleA, hcA⟩ := ownsRow_some hrowA hN0
        injection hvA with hn1 hn2 hn3
        subst hn1
        subst hn3
        have hnews : ∀ j u, (atsC ats)[j]? = some u -> (W2.alloc (.cells #[] 30)).cell? ((⟨gA, 0, none⟩ : Addr).add j) = some u := fun j u hj => by rw [Lib.addr_add]; simpa using hcA j u hj
        go_wp2_with (at_builtin; refine wpList_append rfl _ _ 26 rfl 30 i0 _ 3 48 Tryz.underlying26 hi0 hz0 hz1 hz2 rfl (by decide) _ 0 [] (by rfl) hem _ N ca (atsC ats) (by rfl) (by rw [hN.out]; exact atsC_len ats) (by omega) hnews (atsC_one ats) (by unfold maxLen; omega) (by omega) ?_; intro g' c' w10 hrow2 hgrow hnb; rw [Nat.zero_add, List.nil_append] at hrow2)
        go_meet
        case rel =>
         refine ⟨g', c', rfl, hO3.grown hgrow (fun k hk => Or.inr ?_), hrow2, ?_⟩
         ·have e : W2.heap.size = k := by simpa [Value.ownBlock] using hk
          omega
         ·rcases hnb with h | h
          ·have e : W2.heap.size = g' := by simpa [Value.ownBlock] using h
           omega
          ·simp at h; omega
      case rest =>
       obtain ⟨g13, c13, rfl, hO4, hrow4, hg13⟩ := hcut
       have hg13lt := ownsRow_lt hrow4 (k := g13) rfl
       have hT6 := hT5.out.keep hO4 (fun h => h)
       have hTs := hT5.out.lt
       have hTg : T ≠ g13 := by omega
       have hF4 : Fr (fun x => x = T) wa wc := hF2.out.old hO4
       have hbf : ∀ w1, Fr (fun x => x = T) wa w1 -> Fr (fun x => base <= x) w w1 := fun w1 f => (hGo.out.fr.mono (fun x hx => .inl (h'.out.lo x hx))).trans f (fun x hx => .inl (by have := hT.out; have := hbase.out; omega))
       have hfl4 : ∀ w1, Fr (fun x => x = T) wa w1 -> Calls Tryz.prog 82 #[.pointer (some ⟨P, 0, none⟩), .int .i64 2] w1 fun e w' => e = .returned (.bool false) /\ Hid (FailQ P s base w w') := fun w1 f => (SP.start (hSQ.out w1 f).blk).fail 2 (by decide) haz |>.mono (fun e w' x => ⟨x.1, (x.2.out.q hP0).from (hbf w1 f)⟩)
       replace hbf := zz hbf
       have hwas : wa.heap.size <= g13 := by have := hF2.out.size; omega
       obtain ⟨W4, hW4⟩ : ∃ W4, W4 = wc := ⟨_, rfl⟩
       rw [<- hW4] at hg13lt hT6 hF4 hrow4 ⊢
       clear hW4 hO4
       replace hfl4 := zz hfl4
       replace hT6 := zz hT6
       replace hF4 := zz hF4
       have hrow4' := zz hrow4
       clear hrow4 z3
       go_wp2
       go_loopg [128] N (fun k u128 w5 => ∃ (i : Nat) (ats2 : List (ByteArray × ByteArray × ByteArray)), u128 = .int .i64 i /\ i + k = N /\ Fr (fun x => x = g13) W4 w5 /\ w5.ownsRow 0 30 3 (.slice (some ⟨g13, 0, none⟩) (N : Nat) c13) N (atsC ats2) /\ AtsR ats ats2)
       case atStart => exact ⟨0, ats, rfl, by omega, Fr.refl _ _, hrow4'.out, AtsR.refl _⟩
       case round =>
        obtain ⟨i2, ats2, rfl, hik2, hF5, hrow5, hR5⟩ := hrel
        obtain ⟨W5, hW5⟩ : ∃ W5, W5 = wr := ⟨_, rfl⟩
        rw [<- hW5] at hF5 hrow5 ⊢
        clear hW5
        have hTW5 : Fr (fun x => x = T) wa W5 := hF4.out.trans hF5 (fun x hx => Or.inr (by omega))
        by_cases hi2 : i2 < N
        ·have hl2 : ats2.length = N := by rw [hR5.len, hN.out]
         obtain ⟨ko, rfl⟩ : ∃ ko, ko = gk := ⟨_, rfl⟩
         obtain ⟨gx, capx, hvx, hlex, hcx⟩ := ownsRow_some hrow5 (by omega)
         obtain rfl : g13 = gx := by injection hvx with e1; injection e1 with e1; injection e1
         obtain rfl : c13 = capx := by injection hvx
         obtain ⟨x1, x2, x3⟩ := atsC_get ats2 i2 (by omega)
         have q0 := hcx _ _ x1
         have q1 := hcx _ _ x2
         have q2 := hcx _ _ x3
         have hax : ats2[i2]? = some (ats2[i2]'(by omega)) := List.getElem?_eq_getElem _
         generalize ats2[i2]'(by omega) = ax at q0 q1 q2 hax
         obtain ⟨sp, lo, vl⟩ := ax
         dsimp only at q0 q1 q2
         have hi3 : (i2 : Int) < (N : Int) := by omega
         have hAo : Old W5 (W5.alloc (.cells #[.string sp, .string lo, .string vl] 30)) := (Fr.refl _ W5).alloc _
         have hrsx := hrs.out sp false _ (hTW5.old hAo)
         replace hrsx := zz hrsx
         replace hax := zz hax
         replace hF5 := zz hF5
         replace hrow5 := zz hrow5
         replace hR5 := zz hR5
         replace hik2 := zz hik2
         replace hl2 := zz hl2
         replace hAo := zz hAo
         replace hTW5 := zz hTW5
         have i3 : (0 : Int) <= (i2 : Int) := by omega
         have i4 : (i2 : Int) <= (c13 : Int) := by omega
         have i6 : i2 <= c13 := by omega
         clear hvx hcx x1 x2 x3 hlex
         go_upto_region 23 with fail
         obtain ⟨WA, hWA⟩ : ∃ WA, WA = W5.alloc (.cells #[.string sp, .string lo, .string vl] 30) := ⟨_, rfl⟩
         have hbA : Blk WA W5.heap.size #[.string sp, .string lo, .string vl] 30 := by rw [hWA]; exact Blk.new W5 _ _
         rw [<- hWA] at hAo hrsx ⊢
         obtain ⟨R5, hR5'⟩ : ∃ R5, R5 = W5.heap.size := ⟨_, rfl⟩
         rw [<- hR5'] at hbA ⊢
         have y0 : WA.cell? ⟨R5, 0, none⟩ = some (.string sp) := by rw [hbA.cell]; rfl
         have hgR : g13 ≠ R5 := by have := ownsRow_lt hrow5.out (k := g13) rfl; omega
         have hstc : ∀ w1, Old WA w1 -> w1.cell? ⟨g13, i2 * 3, none⟩ = some (.string sp) /\ w1.frozen? ⟨g13, i2 * 3, none⟩ = false := fun w1 ho => ⟨ho.cell (hAo.out.cell q0), own_free (ownsRow_frame hrow5.out (hAo.out.old ho) (fun _ _ h => h)) rfl _⟩
         have i0 : (i2 : Int) < (N : Int) := hi3
         replace hWA := zz hWA
         replace hR5' := zz hR5'
         replace hstc := zz hstc
         replace hbA := zz hbA
         replace hgR := zz hgR
         clear q0 q1 q2
         go_upto_region 24 with (go_at_call 165; refine hrsx.out.mono ?_; rintro e w6 ⟨r2, rfl, k6⟩; obtain ⟨t1, t2⟩ := hstc.out _ k6.old; replace k6 := zz k6)
         clear t1 t2 y0
         obtain ⟨W7, hW7⟩ : ∃ W7, W7 = w6.setCell ⟨g13, i2 * 3, none⟩ (.string r2) := ⟨_, rfl⟩
         rw [<- hW7]
         have hrow7 : W7.ownsRow 0 30 3 (.slice (some ⟨g13, 0, none⟩) (N : Nat) c13) N (atsC (ats2.set i2 (r2, lo, vl))) := by
          rw [hW7, atsC_set (by have := hl2.out; omega) hax.out]
          exact (World.ownsRow.stored (ownsRow_frame hrow5.out (hAo.out.trans k6.out.old (fun _ h => .inl h)) (fun _ _ h => h)) _ _).1
         have hR7 : AtsR ats (ats2.set i2 (r2, lo, vl)) := hR5.out.set hax.out (fun h => k6.out.nz h)
         have hF7 : Fr (fun x => x = g13) W4 W7 := by rw [hW7]; exact Fr.set (F := fun x => x = g13) (hF5.out.old (hAo.out.trans k6.out.old (fun _ h => .inl h))) (Or.inl rfl) _ _
         have hbA7 : Blk W7 R5 #[.string sp, .string lo, .string vl] 30 := by rw [hW7]; exact (hbA.out.keep k6.out.old (fun h => h)).set_ne (fun e => hgR.out e.symm) _
         have hTW7 : Fr (fun x => x = T) wa W7 := hF4.out.trans hF7 (fun x hx => Or.inr (by omega))
         have hl7 : (ats2.set i2 (r2, lo, vl)).length = N := by rw [List.length_set]; exact hl2.out
         replace hrow7 := zz hrow7
         replace hR7 := zz hR7
         replace hF7 := zz hF7
         replace hbA7 := zz hbA7
         replace hTW7 := zz hTW7
         replace hW7 := zz hW7
         clear hbA hstc hrow5 hF5 hTW5 hrsx hax hl2 hR5
         generalize ats2.set i2 (r2, lo, vl) = ats7 at *
         go_wp2
         go_loopg [145] i2 (fun k u145 w8 => ∃ j : Nat, u145 = .int .i64 j /\ j + k = i2 /\ Old W7 w8)
         case atStart => exact ⟨0, rfl, by omega, Fr.refl _ _⟩
         case round =>
          obtain ⟨j, rfl, hjk, hO8⟩ := hrel
          obtain ⟨W8, hW8⟩ : ∃ W8, W8 = wr := ⟨_, rfl⟩
          rw [<- hW8] at hO8 ⊢
          clear hW8
          by_cases hj : j < i2
          ·obtain ⟨gx, capx, hvx, _, hcx⟩ := ownsRow_some hrow7.out (by omega)
           obtain rfl : g13 = gx := by injection hvx with e1; injection e1 with e1; injection e1
           obtain ⟨x1, x2, x3⟩ := atsC_get ats7 j (by omega)
           obtain ⟨x4, _, _⟩ := atsC_get ats7 i2 (by omega)
           have q0 := hO8.cell (hcx _ _ x1)
           have q1 := hO8.cell (hcx _ _ x2)
           have q2 := hO8.cell (hcx _ _ x3)
           have q3 := hO8.cell (hcx _ _ x4)
           have q4 : W8.cell? ⟨R5, 1, none⟩ = some (.string lo) := by rw [(hbA7.out.keep hO8 (fun h => h)).cell]; rfl
           generalize (ats7[i2]'(by omega)).1 = r7 at q3
           generalize ats7[j]'(by omega) = aj at q0 q1 q2
           obtain ⟨sj, lj, vj⟩ := aj
           dsimp only at q0 q1 q2
           have hj2 : (j : Int) < (i2 : Int) := by omega
           have hO9 : Old W8 (W8.alloc (.cells #[.string sj, .string lj, .string vj] 30)) := (Fr.refl _ W8).alloc _
           have q3' := hO9.cell q3
           have q4' := hO9.cell q4
           have hI : IntKind.i64.wrap ((j : Int) + 1) = ((j + 1 : Nat) : Int) := by rw [IntWalk.i64_in _ (by omega)]; omega
           replace hI := zz hI
           replace hO8 := zz hO8
           replace hO9 := zz hO9
           replace hjk := zz hjk
           clear hvx hcx x1 x2 x3 x4 q3 q4
           go_upto_region 27 with fail
           obtain ⟨W9, hW9⟩ : ∃ W9, W9 = W8.alloc (.cells #[.string sj, .string lj, .string vj] 30) := ⟨_, rfl⟩
           have hbB : Blk W9 W8.heap.size #[.string sj, .string lj, .string vj] 30 := by rw [hW9]; exact Blk.new W8 _ _
           rw [<- hW9] at hO9 q3' q4' ⊢
           generalize W8.heap.size = R8 at *
           have y0 : W9.cell? ⟨R8, 0, none⟩ = some (.string sj) := by rw [hbB.cell]; rfl
           have y1 : W9.cell? ⟨R8, 1, none⟩ = some (.string lj) := by rw [hbB.cell]; rfl
           replace hW9 := zz hW9
           clear hbB q0 q1 q2
           go_cut [163] from 149 to 163 (fun s163 wx => ∃ (b : Bool) (n : Nat), s163 = .bool b /\ wx = W9.drewN n)
           case first =>
            cases hx : (sj.toList == r7.toList)
            ·go_quiet (fail)
             go_wp2_with fail
             go_meet
             case rel => exact ⟨_, _, rfl, rfl⟩
            ·go_quiet (fail)
             go_wp2_with fail
             go_meet
             case rel => exact ⟨_, _, rfl, rfl⟩
           case rest =>
            obtain ⟨b, n9, rfl, hw⟩ := hcut
            rw [hw]; clear hw wc
            have hO10 : Old W7 (W9.drewN n9) := (hO8.out.trans hO9.out (fun _ h => .inl h)).drewN n9
            cases b with
            | true =>
             have hfx := hfl4.out _ (hTW7.out.old hO10)
             replace hfx := zz hfx
             go_wp2_with (go_at_call 82; refine hfx.out.mono ?_; rintro e w1 ⟨rfl, k1⟩)
             go_ret
             exact ⟨⟨false, rfl, .inl ⟨rfl, k1.out⟩⟩⟩
            | false =>
             go_wp2
             go_roundg (gk - 1)
             case measure => have := hjk.out; omega
             case rel => exact ⟨j + 1, rfl, by have := hjk.out; omega, hO10⟩
          ·have hj2 : ¬ (j : Int) < (i2 : Int) := by omega
           have hF8 : Fr (fun x => x = g13) W4 W8 := hF7.out.old hO8
           have hrow8 := ownsRow_frame hrow7.out hO8 (fun _ _ h => h)
           replace hF8 := zz hF8
           replace hrow8 := zz hrow8
           clear hO8 hjk
           go_wp2
           go_roundg (ko - 1)
           case measure => have := hik2.out; omega
           case rel => exact ⟨i2 + 1, ats7, rfl, by have := hik2.out; omega, hF8.out, hrow8.out, hR7.out⟩
        ·have hi3 : ¬ (i2 : Int) < (N : Int) := by omega
         have hT7 : Blk W5 T #[.int .i64 1, .string r, .string l, .slice pa (N : Nat) ca, .string ⟨#[]⟩, .int .i64 0] 28 := hT6.out.keep hF5 hTg
         have t3 : W5.cell? ⟨T, 3, none⟩ = some (.slice pa (N : Nat) ca) := by rw [hT7.cell]; rfl
         have t4 := hT7.fz 3
         have hfx := hfl4.out _ hTW5
         replace hfx := zz hfx
         replace hrow5 := zz hrow5
         replace hF5 := zz hF5
         replace hR5 := zz hR5
         replace hTW5 := zz hTW5
         replace hT7 := zz hT7
         clear hik2
         cases hpx : (p.toList == [120, 109, 108, 110, 115])
         ·go_upto_region 34 with fail
          obtain ⟨W10, hW10⟩ : ∃ W10, W10 = W5.setCell ⟨T, 3, none⟩ (.slice (some ⟨g13, 0, none⟩) (N : Nat) c13) := ⟨_, rfl⟩
          rw [<- hW10]
          have hT10 : Blk W10 T #[.int .i64 1, .string r, .string l, .slice (some ⟨g13, 0, none⟩) (N : Nat) c13, .string ⟨#[]⟩, .int .i64 0] 28 := by rw [hW10]; exact hT7.out.set 3 _
          have hTW10 : Fr (fun x => x = T) wa W10 := by rw [hW10]; exact Fr.set (F := fun x => x = T) hTW5.out (Or.inl rfl) _ _
          have hrow10 : W10.ownsRow 0 30 3 (.slice (some ⟨g13, 0, none⟩) (N : Nat) c13) N (atsC ats2) := by rw [hW10]; exact ownsRow_setCell hrow5.out (fun e => hTg (by simpa [Value.ownBlock, eq_comm] using e)) _
          have hSQ10 := hSQ.out W10 hTW10
          have hltq := (hSQ.out wa (Fr.refl _ _)).lt
          have hl2 : ats2.length = N := by rw [hR5.out.len, hN.out]
          have hAG : AttrG W10 (SA P q') (.slice (some ⟨g13, 0, none⟩) (N : Nat) c13) ats2 := by
           refine ⟨by rw [hl2]; exact hrow10, fun k hk e => ?_, by omega⟩
           have e1 : g13 = k := by simpa [Value.ownBlock] using hk
           have := hltq k e
           omega
          have hGo10 : GoP P q w q' W10 := ⟨hGo.out.fr.trans hTW10 (fun x hx => Or.inr (by rw [hx, hT.out]; exact Nat.le_refl _)), hGo.out.nw⟩
          have hadd := (add_do P s base W10 a q' vd gs _ _ hSQ10 (by omega) (Nat.le_trans hbase.out hGo10.fr.size) 1 r l _ ats2 ⟨#[]⟩ hAG 0).mono (R' := fun e w' => e = .returned (.bool true) /\ Hid (∃ q', SQ P s base w' a q' vd (gs ++ [⟨1, r, l, ats2, ⟨#[]⟩, a⟩]) (opn ++ [colon p l]) (bnd ++ [prs]) /\ GoP P q w q' w')) (by
           rintro e w' ⟨rfl, q2, h1, h2, _⟩
           exact ⟨rfl, q2, h1, hGo10.tr h2⟩)
          have u0 : W10.cell? ⟨T, 0, none⟩ = some (.int .i64 1) := by rw [hT10.cell]; rfl
          have u1 : W10.cell? ⟨T, 1, none⟩ = some (.string r) := by rw [hT10.cell]; rfl
          have u2 : W10.cell? ⟨T, 2, none⟩ = some (.string l) := by rw [hT10.cell]; rfl
          have u3 : W10.cell? ⟨T, 3, none⟩ = some (.slice (some ⟨g13, 0, none⟩) (N : Nat) c13) := by rw [hT10.cell]; rfl
          have u4 : W10.cell? ⟨T, 4, none⟩ = some (.string ⟨#[]⟩) := by rw [hT10.cell]; rfl
          have u5 : W10.cell? ⟨T, 5, none⟩ = some (.int .i64 0) := by rw [hT10.cell]; rfl
          have hfin : ∀ (w' : World) (q2 : PV), SQ P s base w' a q2 vd (gs ++ [⟨1, r, l, ats2, ⟨#[]⟩, a⟩]) (opn ++ [colon p l]) (bnd ++ [prs]) -> GoP P q w q2 w' -> Calls Tryz.prog 132 #[.pointer (some ⟨P, 0, none⟩), .string p, .string l] w' fun e w2 => ∃ ok : Bool, e = .returned (.bool ok) /\ Hid (OpnP P s base a q vd gs opn bnd p l ats true w (.returned (.bool ok)) w2) := fun w' q2 hs2 hg2 => by
           refine (close_do P s base w' a q2 vd _ _ _ hs2 (by simp; omega) (Nat.le_trans hbase.out hg2.fr.size) haz hok2.out hln2.out hlb2.out p l hp hl).mono ?_
           rintro e w2 ⟨ok, rfl, hc⟩
           refine ⟨ok, rfl, ⟨⟨ok, rfl, ?_⟩⟩⟩
           rcases hc with ⟨h1, h2⟩ | ⟨h1, q3, opn', bnd', x, r2, e1, e2, h3, h4, h5⟩
           ·exact .inl ⟨h1, (h2.q hP0).from (hg2.fr.mono (fun x hx => .inl (h'.out.lo x hx)))⟩
           ·have e3 := (List.append_inj' e1 (by simp)).1
            have e4 := (List.append_inj' e2 (by simp)).1
            subst e3 e4
            refine .inr ⟨h1, q3, _, _, [⟨1, r, l, ats2, ⟨#[]⟩, (a : Nat)⟩, ⟨2, r2, l, [], ⟨#[]⟩, (a : Nat)⟩], by simpa using h4, hg2.tr h5, hok.out, hlb.out, r, ats2, k1.out.nz, hR5.out, hxm.out, .inr ⟨rfl, rfl, r2, h3, rfl⟩⟩
          replace hadd := zz hadd
          replace hfin := zz hfin
          replace hpx := zz hpx
          replace hW10 := zz hW10
          have hrz := k1.out.nz
          replace hrz := zz hrz
          replace hR5 := zz hR5
          clear hT10 hTW10 hrow10 hSQ10 hltq hAG hGo10 hl2 t3 t4 hfx
          cases empty with
          | false =>
           go_wp2_with (go_at_call 129; refine hadd.out.mono ?_; rintro e w11 ⟨rfl, k11⟩)
           go_ret
           obtain ⟨q2, h1, h2⟩ := k11.out
           exact ⟨⟨true, rfl, .inr ⟨rfl, q2, _, _, [⟨1, r, l, ats2, ⟨#[]⟩, (a : Nat)⟩], h1, h2, hok2.out, hlb2.out, r, ats2, hrz.out, hR5.out, hxm.out, .inl ⟨rfl, rfl, rfl⟩⟩⟩⟩
          | true =>
           go_wp2_with (first
            | (go_at_call 132; obtain ⟨q2, h1, h2⟩ := k11.out; refine (hfin.out _ _ h1 h2).mono ?_; rintro e w12 ⟨ok, rfl, k12⟩)
            | (go_at_call 129; refine hadd.out.mono ?_; rintro e w11 ⟨rfl, k11⟩))
           go_ret
           exact k12.out
         ·go_wp2_with (go_at_call 82; refine hfx.out.mono ?_; rintro e w1 ⟨rfl, k1⟩)
          go_ret
          exact ⟨⟨false, rfl, .inl ⟨rfl, k1.out⟩⟩⟩
end Go.Proofs.YtepbbahdhhjibaaGreatDoor
