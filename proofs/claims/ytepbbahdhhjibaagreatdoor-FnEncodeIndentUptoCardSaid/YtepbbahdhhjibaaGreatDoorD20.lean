/- own text -/
import Derived.Test.YtepbbahdhhjibaaGreatDoorD19
namespace Go.Proofs.YtepbbahdhhjibaaGreatDoor
set_option linter.unusedSimpArgs false
set_option linter.unusedVariables false
set_option maxHeartbeats 4000000
set_option maxRecDepth 100000
open Go.RowKit
theorem eof_eql' (ep : Addr) (w : World) : (binOp .eql 70 (.iface 192 (.pointer (some ep))) (.iface 192 (.pointer (some ep)))).run Tryz.prog w = .ok (.bool true) w := by
 obtain ⟨i, hi, hc⟩ := Option.map_eq_some_iff.1 (show (Tryz.prog.info? 192).map (·.comparable) = some true by kernel_rfl)
 obtain ⟨j, hj, _⟩ := Option.map_eq_some_iff.1 (show (Tryz.prog.info? 194).map (·.size) = some 1 by kernel_rfl)
 exact run_eql_iface_ptr_same (P := Tryz.prog) w ep Tryz.underlying70 Tryz.underlying192 hi hc hj
theorem code_eof (ep : Addr) (w : World) (hG : w.cell? ⟨0, 0, none⟩ = some (.iface 192 (.pointer (some ep)))) :
  Calls Tryz.prog 32 #[.iface 192 (.pointer (some ep))] w fun e w' => e = .returned (.int .i64 0) /\ Old w w' := by
 have heq := eof_eql' ep
 have hG' : (w.alloc (.cells #[.pointer none] 118)).cell? ⟨0, 0, none⟩ = some (.iface 192 (.pointer (some ep))) := Old.cell ((Fr.refl _ w).alloc _) hG
 go_enter Tryz.func32, Tryz.ntmps32
 go_wp2
 go_ret
 exact ⟨rfl, (Fr.refl _ w).alloc _⟩
theorem code_nil (w : World) : Calls Tryz.prog 32 #[.nilIface] w fun e w' => e = .returned (.int .i64 0) /\ Old w w' := by
 go_enter Tryz.func32, Tryz.ntmps32
 go_wp2
 go_ret
 exact ⟨rfl, (Fr.refl _ w).alloc _⟩
theorem DSt.out {F : Nat -> Prop} {E : Dx} {w w' : World} {v : Value} {nodes : List Nat} {pend : Option (List Nat)} {items : List Item} (h : DSt E w v nodes pend items) (f : Fr F w w') (h0 : ∀ x, x < 5 -> ¬ F x) (h1 : ∀ x, E.own v x \/ x ∈ nodes -> ¬ F x) (hm : ∀ m, E.ns = .map (some m) -> ¬ F m) : DSt E w' v nodes pend items := by
 obtain ⟨p, bs, opn, eo, hd, he, hdoc, hlen, hk⟩ := h.ex
 refine ⟨p, bs, opn, eo, hd.out f h0 (fun x hx => h1 x (Or.inl hx)), he, hdoc, hlen, ?_⟩
 cases pend with
 | none => exact ⟨hk.1, hk.2.out f (fun x hx => h1 x (Or.inr hx)) hm⟩
 | some nm => exact ⟨hk.1, hk.2.1, hk.2.2.1, hk.2.2.2.1, hk.2.2.2.2.1, hk.2.2.2.2.2.out f (fun x hx => h1 x (Or.inr hx)) hm⟩
theorem DSt.facts {E : Dx} {w : World} {v : Value} {nodes : List Nat} {pend : Option (List Nat)} {items : List Item} (h : DSt E w v nodes pend items) : (∀ x, E.own v x \/ x ∈ nodes -> x < w.heap.size) /\ ∀ m, E.ns = .map (some m) -> m < w.heap.size := by
 obtain ⟨p, bs, opn, eo, hd, he, hdoc, hlen, hk⟩ := h.ex
 have key : ∀ {opn' : List (List Nat)}, Stk E w v p opn' nodes -> (∀ x ∈ nodes, x < w.heap.size) /\ ∀ m, E.ns = .map (some m) -> m < w.heap.size := fun hs => ⟨fun x hx => (hs.bes x hx).lt, fun m hm => by
  obtain ⟨b, clk, m1, m2, m3, m4⟩ := hs.mp
  rw [m1] at hm; cases hm; exact m3.lt⟩
 have key2 : (∀ x ∈ nodes, x < w.heap.size) /\ ∀ m, E.ns = .map (some m) -> m < w.heap.size := by
  cases pend with
  | none => exact key hk.2
  | some nm => exact key hk.2.2.2.2.2
 exact ⟨fun x hx => hx.elim (fun h => hd.own_lt x h) (fun h => key2.1 x h), key2.2⟩
theorem AttrV.lt {w : World} {A : Nat -> Prop} {tk : Tk} {av : Value} (h : AttrV w A tk av) : AttrV w (fun k => A k /\ k < w.heap.size) tk av := by
 cases tk with
 | st nm kv => exact ⟨h.1, fun k hk => ⟨h.2.1 k hk, ownsRow_lt h.1 hk⟩, h.2.2⟩
 | _ => exact h
theorem info64 : (Tryz.prog.info? 64).map (fun i => (i.zero, i.size, i.bytes)) = some (some (.agg #[.int .i64 0, .string ⟨#[]⟩, .string ⟨#[]⟩, .slice none 0 0, .string ⟨#[]⟩, .int .i64 0, .int .i64 0, .int .i64 0]), 8, 104) := by kernel_rfl
structure ToksAt (w : World) (base : Nat) (lv : Value) (tks : List Tk) : Prop where
 ex : ∃ cs, w.ownsRow 0 64 8 lv tks.length cs /\ TokL w (fun k => base <= k /\ lv.ownBlock ≠ some k) tks cs
 own : ∀ k, lv.ownBlock = some k -> base <= k
theorem tokens_do (s : List UInt8) (items : List Item) (ep : Addr) (w : World) (hs : s.length <= 549755813888) (hi : srcI items = s) (hdoc : docOk [] items) (htl : (toksI items).length <= 1099511627776) (hG : w.cell? ⟨0, 0, none⟩ = some (.iface 192 (.pointer (some ep)))) (hU : UT w) (h5 : 5 <= w.heap.size) :
  Calls Tryz.prog 11 #[.string ⟨s.toArray⟩, .slice none 0 0, .bool false, .agg opt0] w fun e w' => ∃ lv, e = .returned (.tuple #[lv, .int .i64 0]) /\ Old w w' /\ ToksAt w' w.heap.size lv (toksI items) := by
 obtain ⟨i0, hi0, hz0, hz1, hz2⟩ := info_parts info64
 have holdO : Old w (w.alloc (.cells opt0 41)) := (Fr.refl _ w).alloc _
 have hold2 : Old w ((w.alloc (.cells opt0 41)).alloc (.cells (rdrA ⟨s.toArray⟩) 79)) := holdO.alloc _
 have e1 : (w.alloc (.cells opt0 41)).heap.size = w.heap.size + 1 := by simp
 have hRD : Blk ((w.alloc (.cells opt0 41)).alloc (.cells (rdrA ⟨s.toArray⟩) 79)) (w.heap.size + 1) (rdrA ⟨s.toArray⟩) 79 := by
  have := Blk.new (w.alloc (.cells opt0 41)) (rdrA ⟨s.toArray⟩) 79
  rw [e1] at this; exact this
 have hOB : Blk ((w.alloc (.cells opt0 41)).alloc (.cells (rdrA ⟨s.toArray⟩) 79)) w.heap.size opt0 41 := (Blk.new w opt0 41).alloc _
 have hdc := (decoder_do (w.heap.size + 1) (w.heap.size + 1) ep s items _ hs hi hdoc hRD (hold2.cell hG) (hU.fr hold2 (fun h => h) (fun h => h)) (by omega) (Nat.le_refl _)).mono (R' := fun e w' => ∃ E : Dx, e = .returned (.pointer (some ⟨E.D, 0, none⟩)) /\ w'.cell? ⟨w.heap.size, 0, none⟩ = some (.bool false) /\ Hid (E.et = 192 /\ E.eof = .iface 192 (.pointer (some ep)) /\ Old w w' /\ ∃ v, DSt E w' v [] none items /\ (∀ x, E.own v x -> w.heap.size < x))) (by
  rintro e w' ⟨E, v, h1, h2, h3, rfl, h4, h5, h6⟩
  have hO' := hOB.keep h4 (fun h => h)
  refine ⟨E, rfl, by rw [hO'.cell]; rfl, h1, h2, hold2.old h4, v, h5, fun x hx => ?_⟩
  rcases h6 x hx with h | h
  ·omega
  ·have : w.heap.size + 2 <= x := by simpa using h
   omega)
 clear hRD hOB hold2 holdO
 unfold opt0 rdrA at *
 replace hG := zz hG
 replace hU := zz hU
 replace hi := zz hi
 replace hdoc := zz hdoc
 clear e1
 go_enter Tryz.func11, Tryz.ntmps11
 go_wp2_with (go_at_call 36; refine hdc.mono ?_; rintro e w1 ⟨E, rfl, o0, k1⟩)
 obtain ⟨hEt, hEe, hO1, v1, hD1, hown1⟩ := k1.out
 have hEe' := zz hEe
 clear k1 hdc hEe
 replace hO1 := zz hO1
 replace hown1 := zz hown1
 replace hD1 := zz hD1
 go_loopg [11] (toksI items).length (fun k lv wr => ∃ (tks1 tks2 : List Tk) (cs : List Value) (v : Value) (nodes : List Nat) (pend : Option (List Nat)) (items' : List Item), tks2.length = k /\ toksI items = tks1 ++ tks2 /\ toksP pend items' = tks2 /\ DSt E wr v nodes pend items' /\ Old w wr /\ wr.cell? ⟨w.heap.size, 0, none⟩ = some (.bool false) /\
  (∀ x, E.own v x \/ x ∈ nodes -> w.heap.size < x /\ x < wr.heap.size) /\ wr.ownsRow 0 64 8 lv tks1.length cs /\ TokL wr (fun k => w.heap.size < k /\ lv.ownBlock ≠ some k /\ ¬ (E.own v k \/ k ∈ nodes) /\ k < wr.heap.size) tks1 cs /\ (∀ k, lv.ownBlock = some k -> w.heap.size < k /\ ¬ (E.own v k \/ k ∈ nodes) /\ ∀ m, E.ns = .map (some m) -> k ≠ m))
 case atStart =>
  refine ⟨[], toksI items, [], v1, [], none, items, rfl, rfl, rfl, hD1.out, hO1.out, o0, ?_, World.ownsRow_nil _ _ _ _, rfl, fun k hk => by simp [Value.ownBlock] at hk⟩
  rintro x (hx | hx)
  ·obtain ⟨p, bs, opn, eo, hd, _⟩ := hD1.out.ex
   exact ⟨hown1.out x hx, hd.own_lt x hx⟩
  ·cases hx
 case round =>
  obtain ⟨tks1, tks2, cs, v, nodes, pend, items', hk, htk, htp, hD, hO, oo, hown, hrow, hTL, hlv⟩ := hrel
  obtain ⟨pl, nl, cl, rfl⟩ : ∃ pl nl cl, u11 = .slice pl nl cl := by
   rcases hrow.2 with ⟨h1, _⟩ | ⟨g, cap, cur, h1, _⟩
   ·exact ⟨_, _, _, h1⟩
   ·exact ⟨_, _, _, h1⟩
  clear hO1 hown1 hD1 o0
  cases tks2 with
  | nil =>
   have hG' := hO.cell hG.out
   have hst := (step_eof E hEt wr v nodes pend items' hD htp).mono (R' := fun e w' => e = .returned (.tuple #[.nilIface, .iface 192 (.pointer (some ep))]) /\ w'.cell? ⟨0, 0, none⟩ = some (.iface 192 (.pointer (some ep))) /\ Hid (St E wr v w' v)) (by
    rintro e w' ⟨rfl, h1, h2⟩
    rw [hEe'.out] at h2 ⊢
    exact ⟨rfl, h2, h1⟩)
   have ht1 : toksI items = tks1 := by simpa using htk
   replace hO := zz hO
   replace hown := zz hown
   replace hrow := zz hrow
   replace hTL := zz hTL
   replace hlv := zz hlv
   clear hD htp htk hk hG' hi hdoc
   replace ht1 := zz ht1
   go_wp2_with (first | (go_at_call 38; refine hst.mono ?_; rintro e w2 ⟨rfl, g0, k2⟩) | (go_at_call 32; refine (code_eof ep w2 g0).mono ?_; rintro e w3 ⟨rfl, k3⟩))
   go_ret2
   have f2 : Fr (E.own v) wr w3 := (k2.out.fr).old k3
   refine ⟨_, rfl, hO.out.trans f2 (fun x hx => Or.inr (Nat.le_of_lt (hown.out x (Or.inl hx)).1)), ?_, fun k hk => Nat.le_of_lt (hlv.out k hk).1⟩
   rw [ht1.out]
   exact ⟨cs, ownsRow_frame hrow.out f2 (fun k hk hx => (hlv.out k hk).2.1 (Or.inl hx)), (hTL.out.keep f2 (fun k hk hx => hk.2.2.1 (Or.inl hx))).mono (fun k hk => ⟨Nat.le_of_lt hk.1, hk.2.1⟩)⟩
  | cons tk rest =>
   have hst := (step_do E wr v nodes pend items' tk rest hD htp).mono (R' := fun e w' => ∃ t, e = .returned (.tuple #[t, .nilIface]) /\ Hid (StepP E wr v nodes tk rest t w')) (fun _ _ h => h)
   have hit : ∀ t w2, StepP E wr v nodes tk rest t w2 -> Calls Tryz.prog 39 #[t, .pointer (some ⟨E.D, 0, none⟩)] w2 fun e w' => ∃ (av : Value) (o l c : Int), e = .returned (.agg #[.int .i64 tk.kind, .string ⟨#[]⟩, .string tk.loc, av, .string tk.text, .int .i64 o, .int .i64 l, .int .i64 c]) /\ av.oneCell' = true /\ Hid (Old w2 w' /\ AttrV w' (fun k => w2.heap.size <= k) tk av) := fun t w2 hP => by
    obtain ⟨v', nodes', pend', items'', h1, h2, h3, h4⟩ := hP
    obtain ⟨p, bs, opn, eo, hd, _⟩ := h1.ex
    exact itok_do E p v' bs _ true eo tk t w2 hd h4
   have hn1 : tks1.length <= 1099511627776 := by rw [htk] at htl; simp at htl; omega
   have htk2 : Hid (toksI items = (tks1 ++ [tk]) ++ rest) := zz (by rw [htk]; simp)
   replace hO := zz hO
   replace hown := zz hown
   replace hrow := zz hrow
   replace hTL := zz hTL
   replace hlv := zz hlv
   replace hit := zz hit
   replace hk := zz hk
   clear hD htp htk
   generalize hK : tk.kind = K at *
   generalize hLo : tk.loc = Lo at *
   generalize hTe : tk.text = Te at *
   replace hK := zz hK
   replace hLo := zz hLo
   replace hTe := zz hTe
   go_wp2_with (first | (go_at_call 38; refine hst.mono ?_; rintro e w2 ⟨t, rfl, k2⟩) | (go_at_call 39; refine (hit.out t w2 k2.out).mono ?_; rintro e w3 ⟨av, o, l, c, rfl, hone, k3⟩; obtain ⟨v', nodes', pend', items'', h1, h2, h3, h4⟩ := k2.out; have f3 : Fr (fun x => E.own v x \/ x ∈ nodes) wr w3 := (h3.fr).old k3.out.1; have row3 := ownsRow_frame hrow.out f3 (fun k hk hx => (hlv.out k hk).2.1 hx); replace row3 := zz row3; replace f3 := zz f3; replace h1 := zz h1; replace h2 := zz h2; replace h3 := zz h3; replace h4 := zz h4) | (at_builtin; refine wpList_append rfl _ _ 34 rfl 64 i0 _ 8 104 Tryz.underlying34 hi0 hz0 hz1 hz2 rfl (by decide) (.slice pl nl cl) tks1.length cs rfl (ownsRow_frame (F := fun _ => False) row3.out ((Fr.refl _ _).alloc _) (fun _ _ h => h)) ⟨w3.heap.size, 0, none⟩ 1 1 [.int .i64 K, .string ⟨#[]⟩, .string Lo, av, .string Te, .int .i64 o, .int .i64 l, .int .i64 c] rfl rfl (by decide) (news_alloc w3 _ 64) (by intro u hu; simp at hu; rcases hu with rfl | rfl | rfl | rfl | rfl | rfl | rfl | rfl <;> first | rfl | exact hone) (by unfold maxLen; omega) (by omega) ?_; intro g' c' w4 hrow' hgrow hnb; replace hrow' := zz hrow'; replace hnb := zz hnb; replace hgrow := zz hgrow))
   go_roundg rest.length
   case measure => have := hk.out; simp at this; omega
   case rel =>
    have hw1 : w.heap.size < wr.heap.size := World.block_lt_of_cell? wr _ oo
    obtain ⟨hA3, hV3⟩ := k3.out
    have hfx := h1.out.facts
    have hs23 : w2.heap.size <= w3.heap.size := hA3.size
    have hsr2 : wr.heap.size <= w2.heap.size := h3.out.fr.size
    have hlvlt : ∀ k, (Value.slice pl nl cl).ownBlock = some k -> k < wr.heap.size := fun k hk => ownsRow_lt hrow.out hk
    have f34 : Fr (fun x => (Value.slice pl nl cl).ownBlock = some x) w3 w4 := ((Fr.refl (fun x => (Value.slice pl nl cl).ownBlock = some x) w3).alloc _).grown hgrow.out (fun k hk => Or.inl hk)
    have hs34 : w3.heap.size <= w4.heap.size := f34.size
    have f24 : Fr (fun x => (Value.slice pl nl cl).ownBlock = some x) w2 w4 := (Fr.of_old hA3).trans f34 (fun x hx => Or.inl hx)
    have f14 : Fr (fun x => (E.own v x \/ x ∈ nodes) \/ (Value.slice pl nl cl).ownBlock = some x) wr w4 := (f3.out.mono (fun x hx => Or.inl (Or.inl hx))).trans f34 (fun x hx => Or.inl (Or.inr hx))
    have hgn : (Value.slice pl nl cl).ownBlock = some g' \/ w3.heap.size <= g' := by
     rcases hnb.out with h | h
     ·exact Or.inl h
     ·right
      have : w3.heap.size + 1 <= g' := by simpa using h
      omega
    have hnw : ∀ x, E.own v' x \/ x ∈ nodes' -> (E.own v x \/ x ∈ nodes) \/ wr.heap.size <= x := h3.out.nw
    refine ⟨tks1 ++ [tk], rest, cs ++ tokCells tk av o l c, v', nodes', pend', items'', rfl, htk2.out, h2.out, h1.out.out f24 ?_ ?_ ?_, ?_, ?_, ?_, ?_, ?_, ?_⟩
    ·intro x hx h
     have := (hlv.out x h).1
     omega
    ·intro x hx h
     rcases hnw x hx with h' | h'
     ·exact (hlv.out x h).2.1 h'
     ·have := hlvlt x h; omega
    ·intro m hm h
     exact (hlv.out m h).2.2 m hm rfl
    ·exact hO.out.trans f14 (fun x hx => Or.inr (by
      rcases hx with hx | hx
      ·exact Nat.le_of_lt (hown.out x hx).1
      ·exact Nat.le_of_lt (hlv.out x hx).1))
    ·refine f14.cell ?_ oo
     rintro (h | h)
     ·have := (hown.out _ h).1; simp at this
     ·have := (hlv.out _ h).1; simp at this
    ·intro x hx
     refine ⟨?_, by have := hfx.1 x hx; omega⟩
     rcases hnw x hx with h | h
     ·exact (hown.out x h).1
     ·omega
    ·have e1 : (tks1 ++ [tk]).length = tks1.length + 1 := by simp
     rw [e1]
     have := hrow'.out
     rw [<- hK.out, <- hLo.out, <- hTe.out] at this
     exact this
    ·have hV4 : AttrV w4 (fun k => w.heap.size < k /\ (Value.slice (some ⟨g', 0, none⟩) (tks1.length + 1) c').ownBlock ≠ some k /\ ¬ (E.own v' k \/ k ∈ nodes') /\ k < w4.heap.size) tk av := by
      refine (hV3.lt.keep f34 (fun k hk h => ?_)).mono (fun k hk => ⟨by omega, fun h => ?_, fun h => ?_, by omega⟩)
      ·have := hlvlt k h; omega
      ·have hk2 : k = g' := by simpa [Value.ownBlock, eq_comm] using h
       subst hk2
       rcases hgn with h' | h'
       ·have := hlvlt _ h'; omega
       ·omega
      ·have := hfx.1 k h; omega
     refine TokL.app hV4 ((hTL.out.keep f14 (fun k hk h => ?_)).mono (fun k hk => ⟨hk.1, fun h => ?_, fun h => ?_, by omega⟩))
     ·rcases h with h | h
      ·exact hk.2.2.1 h
      ·exact hk.2.1 h
     ·have hk2 : k = g' := by simpa [Value.ownBlock, eq_comm] using h
      subst hk2
      rcases hgn with h' | h'
      ·exact hk.2.1 h'
      ·omega
     ·rcases hnw k h with h' | h'
      ·exact hk.2.2.1 h'
      ·omega
    ·intro k hk
     have hk2 : k = g' := by simpa [Value.ownBlock, eq_comm] using hk
     subst hk2
     rcases hgn with h' | h'
     ·refine ⟨(hlv.out _ h').1, fun h => ?_, (hlv.out _ h').2.2⟩
      rcases hnw _ h with h'' | h''
      ·exact (hlv.out _ h').2.1 h''
      ·have := hlvlt _ h'; omega
     ·refine ⟨by omega, fun h => ?_, fun m hm e => ?_⟩
      ·have := hfx.1 _ h; omega
      ·have := hfx.2 m hm; omega
end Go.Proofs.YtepbbahdhhjibaaGreatDoor
