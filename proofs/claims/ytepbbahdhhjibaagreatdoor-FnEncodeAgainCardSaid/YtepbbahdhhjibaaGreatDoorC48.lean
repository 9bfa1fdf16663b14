/- own text -/
import Derived.Test.YtepbbahdhhjibaaGreatDoorCards
import Derived.Test.YtepbbahdhhjibaaGreatDoorTie
import Derived.ProofKit
import Derived.OpenShut
import Derived.ChangeMaps5
import Derived.LaidHandle
import Derived.Lay
import Derived.PinnedBridge
import Derived.Lib.LaidU8T
import Derived.Stop.LaidErr
import Derived.SevenTiedAt
import Derived.Stop.Joined
import Derived.Test.YtepbbahdhhjibaaGreatDoorC31
import Derived.Test.YtepbbahdhhjibaaGreatDoorC47
namespace Go.Proofs.YtepbbahdhhjibaaGreatDoor
set_option linter.unusedSimpArgs false
set_option linter.unusedVariables false
set_option maxHeartbeats 8000000
set_option maxRecDepth 100000
section
open Go.RowKit
theorem list26 {us : List Value} (h : us.length = 26) : ∃ u0 u1 u2 u3 u4 u5 u6 u7 u8 u9 u10 u11 u12 u13 u14 u15 u16 u17 u18 u19 u20 u21 u22 u23 u24 u25, us = [u0, u1, u2, u3, u4, u5, u6, u7, u8, u9, u10, u11, u12, u13, u14, u15, u16, u17, u18, u19, u20, u21, u22, u23, u24, u25] := by
 match us, h with
 | [u0, u1, u2, u3, u4, u5, u6, u7, u8, u9, u10, u11, u12, u13, u14, u15, u16, u17, u18, u19, u20, u21, u22, u23, u24, u25], _ => exact ⟨_, _, _, _, _, _, _, _, _, _, _, _, _, _, _, _, _, _, _, _, _, _, _, _, _, _, rfl⟩
theorem er_eq {a b : GT} (h : a.er = b.er) : a.kind = b.kind /\ a.sp = b.sp /\ a.loc = b.loc /\ a.ats = b.ats /\ a.txt = b.txt := by
 obtain ⟨k1, s1, l1, t1, x1, p1⟩ := a
 obtain ⟨k2, s2, l2, t2, x2, p2⟩ := b
 simp [GT.er] at h
 exact h
theorem same_do (w : World) (lv1 lv2 : Value) (gs1 gs2 : List GT) (h1 : RowG w lv1 gs1) (h2 : RowG w lv2 gs2) (n1 : gs1.length <= 300000) (n2 : gs2.length <= 300000) (t1 : txtSum gs1 <= 100000000) (t2 : txtSum gs2 <= 100000000) (he : (mergeG gs1).map GT.er = (mergeG gs2).map GT.er) :
  Calls Tryz.prog 12 #[lv1, lv2, .bool false] w fun e w' => e = .returned (.bool true) /\ Hid (Old w w') := by
 have hm1 := merged_do w lv1 gs1 h1 n1 t1
 have hm2 : ∀ w1, Old w w1 -> Calls Tryz.prog 40 #[lv2] w1 fun e w' => ∃ lv', e = .returned lv' /\ Hid (Old w1 w' /\ RowG w' lv' (mergeG gs2)) := fun w1 ho => merged_do w1 lv2 gs2 (h2.old ho) n2 t2
 have hlen : (mergeG gs1).length = (mergeG gs2).length := by have := congrArg List.length he; simpa using this
 have hl1 : (mergeG gs1).length <= 300000 := by have := fold_sum gs1 []; unfold mergeG; simp at this; omega
 have hs1 := h1.shape
 have hs2 := h2.shape
 replace hm1 := zz hm1
 replace hm2 := zz hm2
 replace he := zz he
 obtain ⟨q1, d1, rfl⟩ := hs1
 obtain ⟨q2, d2, rfl⟩ := hs2
 generalize mergeG gs1 = G1 at *
 generalize mergeG gs2 = G2 at *
 obtain ⟨N, hN⟩ : ∃ N, Hid (N = G1.length) := ⟨_, zz rfl⟩
 have hN2 : Hid (N = G2.length) := zz (by rw [hN.out]; exact hlen)
 rw [<- hN.out] at hl1
 replace hlen := zz hlen
 clear h1 h2 n1 n2 t1 t2
 go_enter Tryz.func12, Tryz.ntmps12
 go_upto_region 2 with (first
  | (go_at_call 40; refine (hm2.out _ k1.out.1).mono ?_; rintro e w2 ⟨r2, rfl, k2⟩)
  | (go_at_call 40; refine hm1.out.mono ?_; rintro e w1 ⟨r1, rfl, k1⟩))
 have hR1 := k1.out.2.old k2.out.1
 have hR2 := k2.out.2
 have hO2 : Old w w2 := k1.out.1.trans k2.out.1 (fun _ h => .inl h)
 obtain ⟨p1, c1, rfl⟩ := hR1.shape
 obtain ⟨p2, c2, rfl⟩ := hR2.shape
 rw [<- hN.out] at hR1 ⊢
 rw [<- hN2.out] at hR2 ⊢
 replace hR1 := zz hR1
 replace hR2 := zz hR2
 replace hO2 := zz hO2
 clear k1 k2
 go_wp2
 go_loopg [19] N (fun k u19 wr => ∃ j : Nat, u19 = .int .i64 j /\ j + k = N /\ Old w2 wr)
 case atStart => exact ⟨0, rfl, by omega, Fr.refl _ _⟩
 case round =>
  obtain ⟨j, rfl, hjk, hO3⟩ := hrel
  obtain ⟨W3, rfl⟩ : ∃ W3, W3 = wr := ⟨_, rfl⟩
  by_cases hj : j < N
  ·have hR13 := hR1.out.old hO3
   have hR23 := hR2.out.old hO3
   rw [hN.out] at hR13
   rw [hN2.out] at hR23
   obtain ⟨g1, e1, pa, ca, hv1, _, hA, a0, a1, a2, a3, a4, a5⟩ := hR13.get j (by have := hN.out; omega)
   obtain ⟨g2, e2, pb, cb, hv2, _, hB, b0, b1, b2, b3, b4, b5⟩ := hR23.get j (by have := hN2.out; omega)
   obtain rfl : p1 = some ⟨g1, 0, none⟩ := by injection hv1
   obtain rfl : p2 = some ⟨g2, 0, none⟩ := by injection hv2
   have heq : (G1[j]'(by have := hN.out; omega)).er = (G2[j]'(by have := hN2.out; omega)).er := by
    have h3 := congrArg (fun l => l[j]?) he.out
    simp only [List.getElem?_map] at h3
    rw [List.getElem?_eq_getElem (by have := hN.out; omega), List.getElem?_eq_getElem (by have := hN2.out; omega)] at h3
    simpa using h3
   generalize G1[j]'(by have := hN.out; omega) = X1 at *
   generalize G2[j]'(by have := hN2.out; omega) = X2 at *
   obtain ⟨m1, m2, m3, m4, m5⟩ := er_eq heq
   rw [<- m1] at b0
   rw [<- m2] at b1
   rw [<- m3] at b2
   rw [<- m5] at b4
   rw [<- m4] at hB b3
   have hal : ∀ w1, Old W3 w1 -> Calls Tryz.prog 41 #[.agg #[.int .i64 X1.kind, .string X1.sp, .string X1.loc, .slice pa (X1.ats.length : Nat) ca, .string X1.txt, .int .i64 X1.pos], .agg #[.int .i64 X1.kind, .string X1.sp, .string X1.loc, .slice pb (X1.ats.length : Nat) cb, .string X1.txt, .int .i64 X2.pos]] w1 fun e w' => e = .returned (.bool true) /\ Hid (Old w1 w') := fun w1 ho =>
    alike_do w1 X1.kind X1.sp X1.loc X1.txt X1.ats (fun _ => True) (fun _ => True) pa pb ca cb X1.pos X2.pos (hA.keep ho (fun _ _ _ => ⟨fun h => h, trivial⟩)) (hB.keep ho (fun _ _ _ => ⟨fun h => h, trivial⟩))
   have hj2 : (j : Int) < (N : Int) := by omega
   have hI : IntKind.i64.wrap ((j : Int) + 1) = ((j + 1 : Nat) : Int) := by rw [IntWalk.i64_in _ (by omega)]; omega
   replace hI := zz hI
   replace hO3 := zz hO3
   replace hjk := zz hjk
   replace a0 := zz a0
   replace a1 := zz a1
   replace a2 := zz a2
   replace a3 := zz a3
   replace a4 := zz a4
   replace a5 := zz a5
   replace b0 := zz b0
   replace b1 := zz b1
   replace b2 := zz b2
   replace b3 := zz b3
   replace b4 := zz b4
   replace b5 := zz b5
   replace hal := zz hal
   clear hR13 hR23 hv1 hv2 hA hB heq m1 m2 m3 m4 m5
   go_upto_region 7 with fail
   refine wp_cut_slots 22 26 (fun us wx => us[25]? = some (.bool false) /\ Old W3 wx) ?rest (Nat.le_of_ble_eq_true rfl) ?first
   case first =>
    intro J hJ
    exact reg12_do rfl rfl rfl rfl rfl hj (by omega) a0.out a1.out a2.out a3.out a4.out a5.out b0.out b1.out b2.out b3.out b4.out b5.out hal.out (fun a w' h1 h2 h3 => hJ a w' h1 ⟨by rw [List.getElem?_take_of_lt (by omega), List.getElem?_drop, Array.getElem?_toList]; exact h2, h3⟩)
   case rest =>
    intro us hus wa hcut
    obtain ⟨v0, v1, v2, v3, v4, v5, v6, v7, v8, v9, v10, v11, v12, v13, v14, v15, v16, v17, v18, v19, v20, v21, v22, v23, v24, v25, rfl⟩ := list26 hus
    obtain ⟨hu, hO4⟩ := hcut
    obtain rfl : v25 = .bool false := by simpa using hu
    simp only [List.take_succ_cons, List.take_zero, List.drop_succ_cons, List.drop_zero, List.cons_append, List.nil_append]
    have hO5 := hO3.out.trans hO4 (fun _ h => .inl h)
    replace hO5 := zz hO5
    clear hO4 hu hus
    go_wp2
    go_roundg (gk - 1)
    case measure => have := hjk.out; omega
    case rel => exact ⟨j + 1, rfl, by have := hjk.out; omega, hO5.out⟩
  ·have hj2 : ¬ (j : Int) < (N : Int) := by omega
   have hO4 := zz (hO2.out.trans hO3 (fun _ h => .inl h))
   clear hO3 hjk
   go_wp2
   go_ret
   exact ⟨rfl, hO4⟩
end
section
open Go.RowKit
def Tk.kv : Tk -> List (List Nat × List Nat)
 | .st _ kv => kv
 | _ => []
def kvA (kv : List (List Nat × List Nat)) : List (ByteArray × ByteArray × ByteArray) := kv.map fun x => ((⟨#[]⟩ : ByteArray), nameB x.1, nameB x.2)
theorem gtOf_all (tk : Tk) : gtOf tk = ⟨tk.kind, ⟨#[]⟩, tk.loc, kvA tk.kv, tk.text, 0⟩ := by cases tk <;> rfl
theorem AttrV.row {w : World} {A : Nat -> Prop} {tk : Tk} {av : Value} (h : AttrV w A tk av) : w.ownsRow 0 73 3 av tk.kv.length (kvCells tk.kv) /\ tk.kv.length <= 1000000 := by
 cases tk with
 | st nm kv => exact ⟨h.1, h.2.2⟩
 | _ =>
  have h' : av = .slice none 0 0 := h
  subst h'
  exact ⟨World.ownsRow_nil _ _ _ _, Nat.zero_le _⟩
theorem TokL.get8 {w : World} {A : Nat -> Prop} : ∀ {tks : List Tk} {cs : List Value}, TokL w A tks cs -> ∀ (i : Nat) (h : i < tks.length), ∃ av o l c, AttrV w A tks[i] av /\ cs[i * 8]? = some (.int .i64 tks[i].kind) /\ cs[i * 8 + 1]? = some (.string ⟨#[]⟩) /\ cs[i * 8 + 2]? = some (.string tks[i].loc) /\ cs[i * 8 + 3]? = some av /\ cs[i * 8 + 4]? = some (.string tks[i].text) /\ cs[i * 8 + 5]? = some (.int .i64 o) /\ cs[i * 8 + 6]? = some (.int .i64 l) /\ cs[i * 8 + 7]? = some (.int .i64 c) := by
 intro tks
 induction tks with
 | nil => intro cs _ i h; exact absurd h (Nat.not_lt_zero _)
 | cons tk tks ih =>
  rintro cs ⟨av, o, l, c, rest, rfl, h2, h3⟩ i hi
  cases i with
  | zero => exact ⟨av, o, l, c, h2, rfl, rfl, rfl, rfl, rfl, rfl, rfl, rfl⟩
  | succ i =>
   obtain ⟨av', o', l', c', e0, e1, e2, e3, e4, e5, e6, e7, e8⟩ := ih h3 i (by simpa using hi)
   refine ⟨av', o', l', c', e0, ?_⟩
   rw [show (i + 1) * 8 = i * 8 + 8 by omega]
   have hg : ∀ k, (tokCells tk av o l c ++ rest)[i * 8 + 8 + k]? = rest[i * 8 + k]? := fun k => by
    rw [List.getElem?_append_right (by simp [tokCells]; omega)]
    congr 1
    simp [tokCells]; omega
   exact ⟨(hg 0).trans e1, (hg 1).trans e2, (hg 2).trans e3, (hg 3).trans e4, (hg 4).trans e5, (hg 5).trans e6, (hg 6).trans e7, (hg 7).trans e8⟩
structure PlnS (w : World) (tks : List Tk) (i : Nat) (v : Value) (wr : World) : Prop where
 old : Old w wr
 ex : ∃ cs gs, wr.ownsRow 0 28 6 v i cs /\ TokG wr (fun k => w.heap.size <= k /\ v.ownBlock ≠ some k) gs cs /\ gs.length = i /\ gs.map GT.er = (tks.take i).map gtOf
 own : ∀ k, v.ownBlock = some k -> w.heap.size <= k
theorem PlnS.of_old {w wr w2 : World} {tks : List Tk} {i : Nat} {v : Value} (h : PlnS w tks i v wr) (f : Old wr w2) : PlnS w tks i v w2 := by
 obtain ⟨cs, gs, h1, h2, h3, h4⟩ := h.ex
 exact ⟨h.old.trans f (fun _ h => .inl h), ⟨cs, gs, ownsRow_frame h1 f (fun _ _ h => h), h2.keep f (fun k _ hk => ⟨fun h => h, hk⟩), h3, h4⟩, h.own⟩
theorem PlnS.app {w wr w2 : World} {tks : List Tk} {i : Nat} {v : Value} (h : PlnS w tks i v wr) {cs : List Value} {gs : List GT} (hT : TokG wr (fun k => w.heap.size <= k /\ v.ownBlock ≠ some k) gs cs) (hgl : gs.length = i) (hge : gs.map GT.er = (tks.take i).map gtOf) (hi : i < tks.length) {o : Int} {av : Value} (hA : AttrG wr (fun k => w.heap.size <= k /\ v.ownBlock ≠ some k) av (kvA tks[i].kv)) {g' c' : Nat}
  (hrow : w2.ownsRow 0 28 6 (.slice (some ⟨g', 0, none⟩) (i + 1 : Nat) c') (i + 1) (cs ++ gtCells ⟨tks[i].kind, ⟨#[]⟩, tks[i].loc, kvA tks[i].kv, tks[i].text, o⟩ av)) (f : Fr (fun x => v.ownBlock = some x) wr w2) (hnb : v.ownBlock = some g' \/ wr.heap.size <= g') : PlnS w tks (i + 1) (.slice (some ⟨g', 0, none⟩) (i + 1 : Nat) c') w2 := by
 have ho : Old w w2 := h.old.trans f (fun x hx => .inr (h.own x hx))
 have hA2 : ∀ k, k < wr.heap.size -> (w.heap.size <= k /\ v.ownBlock ≠ some k) -> ¬ (v.ownBlock = some k) /\ (w.heap.size <= k /\ (Value.slice (some ⟨g', 0, none⟩) (i + 1 : Nat) c').ownBlock ≠ some k) := fun k hk hk2 => ⟨hk2.2, hk2.1, fun e => by
  have e2 : g' = k := by simpa [Value.ownBlock] using e
  rcases hnb with h1 | h1
  ·exact hk2.2 (by rw [h1, e2])
  ·omega⟩
 refine ⟨ho, ⟨_, gs ++ [⟨tks[i].kind, ⟨#[]⟩, tks[i].loc, kvA tks[i].kv, tks[i].text, o⟩], hrow, TokG.app (g := ⟨tks[i].kind, ⟨#[]⟩, tks[i].loc, kvA tks[i].kv, tks[i].text, o⟩) (hA.keep f hA2) (hT.keep f hA2), by simp [hgl], ?_⟩, fun k hk => ?_⟩
 ·rw [List.map_append, hge, List.take_succ_eq_append_getElem hi, List.map_append]
  simp only [List.map_cons, List.map_nil, gtOf_all]
  rfl
 ·have e2 : g' = k := by simpa [Value.ownBlock] using hk
  subst e2
  have := h.old.size
  rcases hnb with h1 | h1
  ·exact h.own _ h1
  ·omega
theorem plain_do (w : World) (base : Nat) (lv : Value) (tks : List Tk) (h : ToksAt w base lv tks) (hn : tks.length <= 300000) :
  Calls Tryz.prog 14 #[lv] w fun e w' => ∃ lv', e = .returned lv' /\ Hid (Old w w' /\ ∃ gs, RowG w' lv' gs /\ gs.map GT.er = tks.map gtOf) := by
 obtain ⟨ics, hrow, hTL⟩ := h.ex
 obtain ⟨pv, cv, rfl⟩ := ownsRow_shape hrow
 obtain ⟨N, hN⟩ : ∃ N, Hid (N = tks.length) := ⟨_, zz rfl⟩
 obtain ⟨i0, hi0, hz0, hz1, hz2⟩ := info_parts info28
 obtain ⟨j0, hj0, kz0, kz1, kz2⟩ := info_parts info30
 rw [<- hN.out] at hn ⊢
 replace h := zz h
 replace hrow := zz hrow
 replace hTL := zz hTL
 go_enter Tryz.func14, Tryz.ntmps14
 go_wp2
 go_loopg [3, 11] N (fun k u3 u11 wr => ∃ (i : Nat) (po : Option Addr) (co : Nat), u3 = .slice po (i : Nat) co /\ u11 = .int .i64 i /\ i + k = N /\ PlnS w tks i (.slice po (i : Nat) co) wr)
 case atStart => exact ⟨0, none, 0, rfl, rfl, by omega, Fr.refl _ _, ⟨[], [], World.ownsRow_nil _ _ _ _, rfl, rfl, rfl⟩, fun k hk => (by cases hk)⟩
 case round =>
  obtain ⟨i, po, co, rfl, rfl, hik, hS⟩ := hrel
  obtain ⟨W1, rfl⟩ : ∃ W1, W1 = wr := ⟨_, rfl⟩
  by_cases hi : i < N
  ·have hit : i < tks.length := by have := hN.out; omega
   obtain ⟨g, cap, hv, _, hc⟩ := ownsRow_some hrow.out (by omega)
   obtain rfl : pv = some ⟨g, 0, none⟩ := by injection hv
   obtain ⟨av, o, l, c, e0, e1, e2, e3, e4, e5, e6, e7, e8⟩ := hTL.out.get8 i hit
   obtain ⟨hrA, hMl⟩ := e0.row
   obtain ⟨tk, htk⟩ : ∃ tk, Hid (tk = tks[i]) := ⟨_, zz rfl⟩
   rw [<- htk.out] at hrA hMl e1 e3 e5
   obtain ⟨M, hM⟩ : ∃ M, Hid (M = tk.kv.length) := ⟨_, zz rfl⟩
   rw [<- hM.out] at hrA hMl
   obtain ⟨pa, ca, rfl⟩ := ownsRow_shape hrA
   obtain ⟨kind, hkind⟩ : ∃ x, Hid (x = tk.kind) := ⟨_, zz rfl⟩
   obtain ⟨loc, hloc⟩ : ∃ x, Hid (x = tk.loc) := ⟨_, zz rfl⟩
   obtain ⟨txt, htxt⟩ : ∃ x, Hid (x = tk.text) := ⟨_, zz rfl⟩
   rw [<- hkind.out] at e1
   rw [<- hloc.out] at e3
   rw [<- htxt.out] at e5
   have d1 := hS.old.cell (hc _ _ e1)
   have d2 := hS.old.cell (hc _ _ e2)
   have d3 := hS.old.cell (hc _ _ e3)
   have d4 := hS.old.cell (hc _ _ e4)
   have d5 := hS.old.cell (hc _ _ e5)
   have d6 := hS.old.cell (hc _ _ e6)
   have d7 := hS.old.cell (hc _ _ e7)
   have d8 := hS.old.cell (hc _ _ e8)
   have hi2 : (i : Int) < (N : Int) := by omega
   have hI : IntKind.i64.wrap ((i : Int) + 1) = ((i + 1 : Nat) : Int) := by rw [IntWalk.i64_in _ (by omega)]; omega
   obtain ⟨R, hR⟩ : ∃ R, R = W1.heap.size := ⟨_, rfl⟩
   obtain ⟨W2, hW2⟩ : ∃ W2, W2 = W1.alloc (.cells #[.int .i64 kind, .string ⟨#[]⟩, .string loc, .slice pa (M : Nat) ca, .string txt, .int .i64 o, .int .i64 l, .int .i64 c] 64) := ⟨_, rfl⟩
   have hb : Blk W2 R #[.int .i64 kind, .string ⟨#[]⟩, .string loc, .slice pa (M : Nat) ca, .string txt, .int .i64 o, .int .i64 l, .int .i64 c] 64 := by rw [hW2, hR]; exact Blk.new W1 _ _
   have hO12 : Old W1 W2 := by rw [hW2]; exact (Fr.refl _ W1).alloc _
   have hS2 : PlnS w tks i (.slice po (i : Nat) co) W2 := hS.of_old hO12
   have hwR : w.heap.size <= R := by rw [hR]; exact hS.old.size
   have hown : ∀ k, (Value.slice po (i : Nat) co).ownBlock = some k -> k < R := fun k hk => by
    obtain ⟨cs, gs, h1, _⟩ := hS.ex
    rw [hR]; exact ownsRow_lt h1 hk
   have hR2 : R < W2.heap.size := hb.lt
   have y3 : W2.cell? ⟨R, 3, none⟩ = some (.slice pa (M : Nat) ca) := by rw [hb.cell]; rfl
   replace hS := zz hS
   replace hS2 := zz hS2
   replace hrA := zz hrA
   replace hb := zz hb
   replace hik := zz hik
   replace hI := zz hI
   replace hown := zz hown
   replace hO12 := zz hO12
   clear e0 e1 e2 e3 e4 e5 e6 e7 e8 hv hc
   go_upto_region 6 with fail
   rw [<- hW2, <- hR]
   replace hW2 := zz hW2
   replace hR := zz hR
   clear d1 d2 d3 d4 d5 d6 d7 d8
   obtain ⟨ko, rfl⟩ : ∃ ko, ko = gk := ⟨_, rfl⟩
   go_wp2
   go_loopg [6, 18] M (fun k u6 u18 wr => ∃ (j : Nat) (p6 : Option Addr) (c6 : Nat), u6 = .slice p6 (j : Nat) c6 /\ u18 = .int .i64 j /\ j + k = M /\ Old W2 wr /\ wr.ownsRow 0 30 3 (.slice p6 (j : Nat) c6) j (atsC (kvA (tk.kv.take j))) /\ ∀ k, (Value.slice p6 (j : Nat) c6).ownBlock = some k -> W2.heap.size <= k)
   case atStart => exact ⟨0, none, 0, rfl, rfl, by omega, Fr.refl _ _, World.ownsRow_nil _ _ _ _, fun k hk => (by cases hk)⟩
   case round =>
    obtain ⟨j, p6, c6, rfl, rfl, hjk, hO3, hrow6, hown6⟩ := hrel
    obtain ⟨W3, rfl⟩ : ∃ W3, W3 = wr := ⟨_, rfl⟩
    by_cases hj : j < M
    ·have hjt : j < tk.kv.length := by have := hM.out; omega
     obtain ⟨ga, capa, hva, _, hca⟩ := ownsRow_some hrA.out (by omega)
     obtain rfl : pa = some ⟨ga, 0, none⟩ := by injection hva
     obtain ⟨x1, x2, x3⟩ := kv_cells tk.kv j hjt
     have hOw : Old w W3 := (hS.out.old.trans hO12.out (fun _ h => .inl h)).trans hO3 (fun _ h => .inl h)
     have q0 := hOw.cell (hca _ _ x1)
     have q1 := hOw.cell (hca _ _ x2)
     have q2 := hOw.cell (hca _ _ x3)
     have htake : atsC (kvA (tk.kv.take (j + 1))) = atsC (kvA (tk.kv.take j)) ++ [.string ⟨#[]⟩, .string (nameB tk.kv[j].1), .string (nameB tk.kv[j].2)] := by
      have e : tk.kv.take (j + 1) = tk.kv.take j ++ [tk.kv[j]] := List.take_succ_eq_append_getElem hjt
      rw [e]
      simp only [kvA, atsC, List.map_append, List.flatMap_append, List.map_cons, List.map_nil, List.flatMap_cons, List.flatMap_nil, List.append_nil]
     generalize nameB (tk.kv[j]'hjt).1 = lo at q1 htake
     generalize nameB (tk.kv[j]'hjt).2 = vl at q2 htake
     have hj2 : (j : Int) < (M : Int) := by omega
     have hJ : IntKind.i64.wrap ((j : Int) + 1) = ((j + 1 : Nat) : Int) := by rw [IntWalk.i64_in _ (by omega)]; omega
     have hnews : ∀ (m : Nat) (u : Value), [Value.string ⟨#[]⟩, .string lo, .string vl][m]? = some u -> ((W3.alloc (.cells #[.string ⟨#[]⟩, .string lo, .string vl] 73)).alloc (.cells #[.string ⟨#[]⟩, .string lo, .string vl] 30)).cell? ((⟨W3.heap.size + 1, 0, none⟩ : Addr).add m) = some u := by
      have h := news_alloc (W3.alloc (.cells #[.string ⟨#[]⟩, .string lo, .string vl] 73)) [.string ⟨#[]⟩, .string lo, .string vl] 30
      rw [show (W3.alloc (.cells #[.string ⟨#[]⟩, .string lo, .string vl] 73)).heap.size = W3.heap.size + 1 by simp] at h
      exact h
     replace hnews := zz hnews
     replace hJ := zz hJ
     replace hO3 := zz hO3
     replace hrow6 := zz hrow6
     replace hown6 := zz hown6
     replace hjk := zz hjk
     replace htake := zz htake
     clear hva hca x1 x2 x3 hOw
     go_wp2_with (at_builtin; refine wpList_append rfl _ _ 26 rfl 30 j0 _ 3 48 Tryz.underlying26 hj0 kz0 kz1 kz2 rfl (by decide) _ j _ (by rfl) (ownsRow_frame (F := fun _ => False) hrow6.out (((Fr.refl _ W3).alloc _).alloc _) (fun _ _ h => h)) _ 1 1 [.string ⟨#[]⟩, .string lo, .string vl] (by rfl) (by rfl) (by decide) hnews.out (by intro u hu; simp at hu; rcases hu with rfl | rfl | rfl <;> rfl) (by unfold maxLen; omega) (by omega) ?_; intro g' c' w12 hrow' hgrow hnb; have f12 := (((Fr.refl (fun x => (Value.slice p6 (j : Nat) c6).ownBlock = some x) W3).alloc _).alloc _).grown hgrow (fun k hk => Or.inl hk); replace hrow' := zz hrow'; replace hnb := zz hnb; replace f12 := zz f12; clear hgrow)
     go_roundg (gk - 1)
     case measure => have := hjk.out; omega
     case rel =>
      refine ⟨j + 1, some ⟨g', 0, none⟩, c', rfl, rfl, by have := hjk.out; omega, hO3.out.trans f12.out (fun x hx => .inr (hown6.out x hx)), by rw [htake.out]; exact hrow'.out, fun k hk => ?_⟩
      have e2 : g' = k := by simpa [Value.ownBlock] using hk
      subst e2
      rcases hnb.out with h1 | h1
      ·exact hown6.out _ h1
      ·have := hO3.out.size; simp at h1; omega
    ·have hjM : j = M := by omega
     subst hjM
     have hj2 : ¬ (j : Int) < (j : Int) := by omega
     have hb3 := hb.out.keep hO3 (fun h => h)
     have y0 : W3.cell? ⟨R, 0, none⟩ = some (.int .i64 kind) := by rw [hb3.cell]; rfl
     have y1 : W3.cell? ⟨R, 1, none⟩ = some (.string ⟨#[]⟩) := by rw [hb3.cell]; rfl
     have y2 : W3.cell? ⟨R, 2, none⟩ = some (.string loc) := by rw [hb3.cell]; rfl
     have y4 : W3.cell? ⟨R, 4, none⟩ = some (.string txt) := by rw [hb3.cell]; rfl
     have y5 : W3.cell? ⟨R, 5, none⟩ = some (.int .i64 o) := by rw [hb3.cell]; rfl
     have hS3 : PlnS w tks i (.slice po (i : Nat) co) W3 := hS2.out.of_old hO3
     obtain ⟨cs, gs, g1, g2, g3, g4⟩ := hS3.ex
     have hkl : (kvA tk.kv).length = j := by rw [hM.out]; simp [kvA]
     have hAG : AttrG W3 (fun k => w.heap.size <= k /\ (Value.slice po (i : Nat) co).ownBlock ≠ some k) (.slice p6 (j : Nat) c6) (kvA tk.kv) := by
      refine ⟨?_, fun k hk => ?_, by rw [hkl]; omega⟩
      ·rw [hkl]
       rw [hM.out, List.take_length] at hrow6
       rw [hM.out]; exact hrow6
      ·have h1 := hown6 k hk
       exact ⟨by omega, fun e => by have := hown.out k e; omega⟩
     have happ : ∀ (w12 : World) (g' c' : Nat), w12.ownsRow 0 28 6 (.slice (some ⟨g', 0, none⟩) (i + 1 : Nat) c') (i + 1) (cs ++ [.int .i64 kind, .string ⟨#[]⟩, .string loc, .slice p6 (j : Nat) c6, .string txt, .int .i64 o]) -> Fr (fun x => (Value.slice po (i : Nat) co).ownBlock = some x) W3 w12 -> ((Value.slice po (i : Nat) co).ownBlock = some g' \/ W3.heap.size <= g') -> PlnS w tks (i + 1) (.slice (some ⟨g', 0, none⟩) (i + 1 : Nat) c') w12 := fun w12 g' c' er ef en => by
      refine hS3.app g2 g3 g4 hit (o := o) (av := .slice p6 (j : Nat) c6) (by rw [<- htk.out]; exact hAG) ?_ ef en
      rw [<- htk.out, <- hkind.out, <- hloc.out, <- htxt.out]
      exact er
     replace happ := zz happ
     replace g1 := zz g1
     replace hb3 := zz hb3
     clear hO3 hjk hrow6 hown6 hS3 g2 g3 g4 hAG hkl
     go_wp2_with (at_builtin; refine wpList_append rfl _ _ 22 rfl 28 i0 _ 6 88 Tryz.underlying22 hi0 hz0 hz1 hz2 rfl (by decide) _ i cs (by rfl) (ownsRow_frame (F := fun _ => False) g1.out ((Fr.refl _ W3).alloc _) (fun _ _ h => h)) _ 1 1 [.int .i64 kind, .string ⟨#[]⟩, .string loc, .slice p6 (j : Nat) c6, .string txt, .int .i64 o] (by rfl) (by rfl) (by decide) (news_alloc _ [.int .i64 kind, .string ⟨#[]⟩, .string loc, .slice p6 (j : Nat) c6, .string txt, .int .i64 o] 28) (by intro u hu; simp at hu; rcases hu with rfl | rfl | rfl | rfl | rfl | rfl <;> rfl) (by unfold maxLen; omega) (by omega) ?_; intro g' c' w12 hrow' hgrow hnb; have f12 := ((Fr.refl (fun x => (Value.slice po (i : Nat) co).ownBlock = some x) W3).alloc _).grown hgrow (fun k hk => Or.inl hk); replace hrow' := zz hrow'; replace hnb := zz hnb; replace f12 := zz f12; clear hgrow)
     go_roundg (ko - 1)
     case measure => have := hik.out; omega
     case rel => exact ⟨i + 1, some ⟨g', 0, none⟩, c', rfl, rfl, by have := hik.out; omega, happ.out w12 g' c' hrow'.out f12.out (hnb.out.imp id (fun h => by simp at h; omega))⟩
  ·have hi2 : ¬ (i : Int) < (N : Int) := by omega
   have hiN : i = N := by omega
   subst hiN
   replace hS := zz hS
   clear hik
   go_wp2
   go_ret
   obtain ⟨cs, gs, h1, h2, h3, h4⟩ := hS.out.ex
   refine ⟨_, rfl, hS.out.old, gs, ⟨cs, by rw [h3]; exact h1, h2.keep (Fr.refl (fun _ => False) W1) (fun k _ hk => ⟨fun h => h, hk.2⟩)⟩, ?_⟩
   rw [h4, hN.out, List.take_length]
end
section
open Go.RowKit
theorem ToksAt.old {w w' : World} {base : Nat} {lv : Value} {tks : List Tk} (h : ToksAt w base lv tks) (f : Old w w') : ToksAt w' base lv tks := by
 obtain ⟨cs, h1, h2⟩ := h.ex
 exact ⟨⟨cs, ownsRow_frame h1 f (fun _ _ h => h), h2.keep f (fun _ _ h => h)⟩, h.own⟩
theorem text_le (tk : Tk) : tk.text.size <= (tkOut tk).length := by
 cases tk with
 | st nm kv => exact Nat.zero_le _
 | en nm => exact Nat.zero_le _
 | tx rs =>
  have e : (Tk.text (.tx rs)).size = (nb rs).length := by rw [Lib.size_eq]; rfl
  rw [e]; exact nb_le_esc false rs
 | cm d =>
  have e : (Tk.text (.cm d)).size = d.length := by rw [Lib.size_eq]; rfl
  rw [e]; simp [tkOut]; omega
 | pi nm d =>
  have e : (Tk.text (.pi nm d)).size = d.length := by rw [Lib.size_eq]; rfl
  rw [e]
  by_cases hd : d = []
  ·simp [hd]
  ·simp [tkOut, hd]; omega
theorem txtSum_le : ∀ (gs : List GT) (tks : List Tk), gs.map GT.er = tks.map gtOf -> txtSum gs <= (toksOut tks).length := by
 intro gs
 induction gs with
 | nil => intro tks _; simp [txtSum]
 | cons g gs ih =>
  intro tks h
  cases tks with
  | nil => simp at h
  | cons t tks =>
   rw [List.map_cons, List.map_cons] at h
   injection h with h1 h2
   have e1 : txtSum (g :: gs) = g.txt.size + txtSum gs := by simp [txtSum]
   have e2 : g.txt = t.text := by
    have := congrArg GT.txt h1
    rw [gtOf_all] at this
    exact this
   have h3 := text_le t
   have h4 := ih tks h2
   rw [toksOut_cons, List.length_append, e1, e2]
   omega
theorem map_len {gs : List GT} {tks : List Tk} (h : gs.map GT.er = tks.map gtOf) : gs.length = tks.length := by
 have := congrArg List.length h; simpa using this
def docA : List Item := [.st [97] [] [] true]
theorem docA_ok : docOk [] docA := by
 refine ⟨⟨⟨⟨97, [], rfl, by decide, fun x h => (by cases h)⟩, by decide⟩, by decide, fun a h => (by cases h), fun b h => (by cases h)⟩, fun h => (by cases h), rfl⟩
theorem docA_src : srcI docA = [60, 97, 47, 62] := by decide
theorem docA_toks : toksI docA = [.st [97] [], .en [97]] := rfl
theorem reads_do (ep : Addr) (w : World) (hG : w.cell? ⟨0, 0, none⟩ = some (.iface 192 (.pointer (some ep)))) (hU : UT w) (h5 : 5 <= w.heap.size) :
  Calls Tryz.prog 16 #[] w fun e w' => e = .returned (.bool true) /\ Hid (Old w w') := by
 have ht := tokens_do [60, 97, 47, 62] docA ep w (by decide) docA_src docA_ok (by rw [docA_toks]; decide) hG hU h5
 have ht2 : Calls Tryz.prog 11 #[.string ⟨#[60, 97, 47, 62]⟩, .slice none 0 0, .bool false, .agg #[.bool false, .bool false, .slice none 0 0, .slice none 0 0, .string ⟨#[]⟩]] w fun e w' => ∃ g cap : Nat, e = .returned (.tuple #[.slice (some ⟨g, 0, none⟩) 2 cap, .int .i64 0]) /\ (w'.cell? ⟨g, 0, none⟩ = some (.int .i64 1) /\ w'.cell? ⟨g, 8, none⟩ = some (.int .i64 2) /\ w'.cell? ⟨g, 10, none⟩ = some (.string ⟨#[97]⟩)) /\ Hid (Old w w') := by
  refine ht.mono ?_
  rintro e w' ⟨lv, rfl, h1, h2⟩
  obtain ⟨cs, h3, h4⟩ := h2.ex
  obtain ⟨g, cap, hv, _, hc⟩ := ownsRow_some h3 (by rw [docA_toks]; decide)
  obtain ⟨av, o, l, c, _, e1, e2, e3, e4, e5, e6, e7, e8⟩ := h4.get8 0 (by rw [docA_toks]; decide)
  obtain ⟨av', o', l', c', _, f1, f2, f3, f4, f5, f6, f7, f8⟩ := h4.get8 1 (by rw [docA_toks]; decide)
  subst hv
  exact ⟨g, cap, rfl, ⟨hc _ _ e1, hc _ _ f1, hc _ _ f3⟩, h1⟩
 replace ht2 := zz ht2
 clear ht hG hU h5
 go_enter Tryz.func16, Tryz.ntmps16
 go_wp2_with (go_at_call 11; refine ht2.out.mono ?_; rintro e w1 ⟨g, cap, rfl, ⟨c0, c1, c2⟩, k1⟩)
 go_ret
 exact ⟨rfl, k1⟩
end
section
open Go.RowKit
theorem again_long (s : ByteArray) (w : World) (hs : 65536 < s.size) : Calls Tryz.prog 4 #[.string s] w fun e w' => e = .returned (.bool true) /\ Hid (Old w w') := by
 have i1 : (65536 : Int) < (s.size : Int) := by omega
 go_enter Tryz.func4, Tryz.ntmps4
 go_wp2
 all_goals go_ret
 all_goals exact ⟨rfl, Fr.refl _ w⟩
theorem again_do (s : ByteArray) (ep : Addr) (w : World) (hs : s.size <= 65536) (hG : w.cell? ⟨0, 0, none⟩ = some (.iface 192 (.pointer (some ep)))) (hU : UT w) (h5 : 5 <= w.heap.size) :
  Calls Tryz.prog 4 #[.string s] w fun e w' => e = .returned (.bool true) /\ Hid (Old w w') := by
 have es : (⟨s.data.toList.toArray⟩ : ByteArray) = s := by cases s; simp
 have hr : Calls Tryz.prog 17 #[.string s, .bool false, .slice none 0 0, .string ⟨#[]⟩] w fun e w' => ∃ (lv : Value) (vd : Int), e = .returned (.tuple #[lv, .int .i64 vd]) /\ Hid (Old w w' /\ (vd = 0 -> ∃ gs, RowG w' lv gs /\ gs.length <= 200000 /\ ((∀ g ∈ gs, PlG g) -> ∃ items, srcI items = s.data.toList /\ docOk [] items /\ gs.map GT.er = (toksI items).map gtOf))) := by
  refine (read_do s w hs).mono ?_
  intro e w' h
  obtain ⟨lv, vd, rfl, h2⟩ := h.ex
  exact ⟨lv, vd, rfl, h.old, h2⟩
 have htk : ∀ (x : ByteArray) (items : List Item) (w1 : World), Old w w1 -> x.size <= 1000000 -> srcI items = x.data.toList -> docOk [] items -> (toksI items).length <= 1000000 -> Calls Tryz.prog 11 #[.string x, .slice none 0 0, .bool false, .agg #[.bool false, .bool false, .slice none 0 0, .slice none 0 0, .string ⟨#[]⟩]] w1 fun e w' => ∃ lv, e = .returned (.tuple #[lv, .int .i64 0]) /\ Hid (Old w1 w' /\ ToksAt w' w1.heap.size lv (toksI items)) := fun x items w1 ho hx hi hd hl => by
  have ex : (⟨x.data.toList.toArray⟩ : ByteArray) = x := by cases x; simp
  have h := tokens_do x.data.toList items ep w1 (by rw [<- Lib.size_eq]; exact hx) hi hd (by omega) (ho.cell hG) (hU.fr ho (fun h => h) (fun h => h)) (Nat.le_trans h5 ho.size)
  rw [ex] at h
  refine h.mono ?_
  rintro e w' ⟨lv, rfl, h1, h2⟩
  exact ⟨lv, rfl, h1, h2⟩
 have hen : ∀ (lv : Value) (tks : List Tk) (base : Nat) (w1 : World), Old w w1 -> ToksAt w1 base lv tks -> (∀ t ∈ tks, tkOk t) -> nestL [] tks = some [] -> tks.length <= 1000000 -> (toksOut tks).length <= 1000000 -> Calls Tryz.prog 9 #[lv, .string ⟨#[]⟩, .string ⟨#[]⟩, .bool true] w1 fun e w' => e = .returned (.tuple #[.string ⟨(toksOut tks).toArray⟩, .int .i64 0]) /\ Hid (Old w1 w') := fun lv tks base w1 ho hT hok hn hl ho2 =>
  encode_do lv tks base w1 hT hok hn hl ho2 (hU.fr ho (fun h => h) (fun h => h)) (Nat.le_trans h5 ho.size)
 have hrd : ∀ w1, Old w w1 -> Calls Tryz.prog 16 #[] w1 fun e w' => e = .returned (.bool true) /\ Hid (Old w1 w') := fun w1 ho => reads_do ep w1 (ho.cell hG) (hU.fr ho (fun h => h) (fun h => h)) (Nat.le_trans h5 ho.size)
 have i1 : ¬ (65536 : Int) < (s.size : Int) := by omega
 have i2 : ¬ (2147483647 : Int) < (s.size : Int) := by omega
 replace hr := zz hr
 replace htk := zz htk
 replace hen := zz hen
 replace hrd := zz hrd
 replace es := zz es
 clear hG hU h5
 go_enter Tryz.func4, Tryz.ntmps4
 go_upto_region 6 with (go_at_call 17; refine hr.out.mono ?_; rintro e w1 ⟨lv, vd, rfl, k1⟩)
 cases hvd : (vd != 0) with
 | true =>
  have hO := k1.out.1
  replace hO := zz hO
  clear k1
  go_wp2
  go_ret
  exact ⟨rfl, hO⟩
 | false =>
  have hv0 : vd = 0 := by simpa using hvd
  subst hv0
  obtain ⟨gs, hR, hgl, hpl⟩ := k1.out.2 rfl
  have hO1 := k1.out.1
  have hsp := spaceless_do w1 lv gs hR (by omega)
  have hsp2 : Calls Tryz.prog 18 #[lv] w1 fun e w' => ∃ b : Bool, e = .returned (.bool b) /\ Hid (Old w1 w' /\ (b = true -> ∀ g ∈ gs, PlG g)) := hsp.mono (fun e w' h => by obtain ⟨b, h1, h2⟩ := h.ex; exact ⟨b, h1, h2⟩)
  replace hsp2 := zz hsp2
  replace hR := zz hR
  replace hO1 := zz hO1
  replace hpl := zz hpl
  clear k1 hsp hvd
  go_upto_if 30 with (go_at_call 18; refine hsp2.out.mono ?_; rintro e w2 ⟨b, rfl, k2⟩)
  have hO2 : Old w w2 := hO1.out.trans k2.out.1 (fun _ h => .inl h)
  cases b with
  | false =>
   replace hO2 := zz hO2
   go_wp2
   go_ret
   exact ⟨rfl, hO2⟩
  | true =>
   obtain ⟨items, hsrc, hdoc, hge⟩ := hpl.out (k2.out.2 rfl)
   obtain ⟨hok, hnest⟩ := toks_of items [] hdoc
   obtain ⟨hol, htl⟩ := doc_le items [] hdoc
   rw [hsrc, <- Lib.size_eq] at hol htl
   obtain ⟨tks, htks⟩ : ∃ tks, tks = toksI items := ⟨_, rfl⟩
   rw [<- htks] at hok hnest hol htl hge
   have hM := merg_merge tks
   have hdoc2 : docOk [] ((merge tks).map itemOf) := doc_of (merge tks) [] hM.adj (hM.ok hok) (by rw [hM.nest]; exact hnest)
   have hsrc2 : srcI ((merge tks).map itemOf) = toksOut tks := by rw [srcI_map, hM.out]
   have htk2 : toksI ((merge tks).map itemOf) = merge tks := toksI_map _
   have hml := hM.len
   have hRw2 := hR.out.old k2.out.1
   have hgl2 := map_len hge
   have c1 := htk.out s items w2 hO2 (by omega) hsrc hdoc (by rw [<- htks]; omega)
   rw [<- htks] at c1
   have c2 : ∀ (lv2 : Value) (w3 : World), Old w w3 -> ToksAt w3 w2.heap.size lv2 tks -> Calls Tryz.prog 9 #[lv2, .string ⟨#[]⟩, .string ⟨#[]⟩, .bool true] w3 fun e w' => e = .returned (.tuple #[.string ⟨(toksOut tks).toArray⟩, .int .i64 0]) /\ Hid (Old w3 w') := fun lv2 w3 ho hT => hen.out lv2 tks _ w3 ho hT hok hnest (by omega) (by omega)
   obtain ⟨t, ht⟩ : ∃ t : ByteArray, Hid (t = ⟨(toksOut tks).toArray⟩) := ⟨_, zz rfl⟩
   have htd : t.data.toList = toksOut tks := by rw [ht.out]
   have htz : t.size <= 1000000 := by rw [Lib.size_eq, htd]; omega
   have c3 : ∀ (w4 : World), Old w w4 -> Calls Tryz.prog 11 #[.string t, .slice none 0 0, .bool false, .agg #[.bool false, .bool false, .slice none 0 0, .slice none 0 0, .string ⟨#[]⟩]] w4 fun e w' => ∃ lv, e = .returned (.tuple #[lv, .int .i64 0]) /\ Hid (Old w4 w' /\ ToksAt w' w4.heap.size lv (merge tks)) := fun w4 ho => by
    have h := htk.out t ((merge tks).map itemOf) w4 ho htz (by rw [htd]; exact hsrc2) hdoc2 (by rw [htk2]; omega)
    rw [htk2] at h
    exact h
   have c4 : ∀ (lv3 : Value) (w4 w5 : World), Old w w5 -> ToksAt w5 w4.heap.size lv3 (merge tks) -> Calls Tryz.prog 9 #[lv3, .string ⟨#[]⟩, .string ⟨#[]⟩, .bool true] w5 fun e w' => e = .returned (.tuple #[.string t, .int .i64 0]) /\ Hid (Old w5 w') := fun lv3 w4 w5 ho hT => by
    have h := hen.out lv3 (merge tks) _ w5 ho hT (hM.ok hok) (by rw [hM.nest]; exact hnest) (by omega) (by rw [hM.out]; omega)
    rw [hM.out, <- ht.out] at h
    exact h
   rw [<- ht.out] at c2
   have c5 : ∀ (lv3 : Value) (w4 w6 : World), ToksAt w6 w4.heap.size lv3 (merge tks) -> Calls Tryz.prog 14 #[lv3] w6 fun e w' => ∃ lv', e = .returned lv' /\ Hid (Old w6 w' /\ ∃ gs, RowG w' lv' gs /\ gs.map GT.er = (merge tks).map gtOf) := fun lv3 w4 w6 hT => plain_do w6 _ lv3 (merge tks) hT (by omega)
   have c6 : ∀ (lv4 : Value) (w7 : World) (gs1 : List GT), RowG w7 lv4 gs1 -> gs1.map GT.er = (merge tks).map gtOf -> RowG w7 lv gs -> Calls Tryz.prog 12 #[lv4, lv, .bool false] w7 fun e w' => e = .returned (.bool true) /\ Hid (Old w7 w') := fun lv4 w7 gs1 h1 he1 h2 => by
    have l1 := map_len he1
    have s1 := txtSum_le gs1 (merge tks) he1
    have s2 := txtSum_le gs tks hge
    rw [hM.out] at s1
    refine same_do w7 lv4 lv gs1 gs h1 h2 (by omega) (by omega) (by omega) (by omega) ?_
    rw [mergeG_of he1, mergeG_of hge, merge_of_adj hM.adj]
   replace c1 := zz c1
   replace c2 := zz c2
   replace c3 := zz c3
   replace c4 := zz c4
   replace c5 := zz c5
   replace c6 := zz c6
   replace hRw2 := zz hRw2
   replace hO2 := zz hO2
   clear hsrc hdoc hge hok hnest hol htl htks hM hdoc2 hsrc2 htk2 hml hgl2 htd k2
   go_upto_region 12 with (first
    | (go_at_call 9; refine (c4.out _ _ _ o5.out k5.out).mono ?_; rintro e w6 ⟨rfl, k6⟩; have p6 := zz (p5.out.trans k6.out (fun _ h => .inl h)); have o6 := zz (o5.out.trans k6.out (fun _ h => .inl h)))
    | (go_at_call 11; refine (c3.out _ o4.out).mono ?_; rintro e w5 ⟨lv3, rfl, k5'⟩; have p5 := zz (p4.out.trans k5'.out.1 (fun _ h => .inl h)); have o5 := zz (o4.out.trans k5'.out.1 (fun _ h => .inl h)); have k5 := zz k5'.out.2)
    | (go_at_call 9; refine (c2.out _ _ o3.out k3.out).mono ?_; rintro e w4 ⟨rfl, k4⟩; have p4 := zz (p3.out.trans k4.out (fun _ h => .inl h)); have o4 := zz (o3.out.trans k4.out (fun _ h => .inl h)))
    | (go_at_call 11; refine c1.out.mono ?_; rintro e w3 ⟨lv2, rfl, k3'⟩; have p3 := zz k3'.out.1; have o3 := zz (hO2.out.trans k3'.out.1 (fun _ h => .inl h)); have k3 := zz k3'.out.2))
   have k5o := zz (k5.out.old k6.out)
   have hR6 := zz (hRw2.out.old p6.out)
   go_wp2_with (first
    | (go_at_call 16; refine (hrd.out _ o8.out).mono ?_; rintro e w9 ⟨rfl, k9⟩)
    | (go_at_call 12; refine (c6.out _ _ _ k7.out.1 k7.out.2 R7.out).mono ?_; rintro e w8 ⟨rfl, k8⟩; have o8 := zz (o7.out.trans k8.out (fun _ h => .inl h)))
    | (go_at_call 14; refine (c5.out _ _ _ k5o.out).mono ?_; rintro e w7 ⟨lv4, rfl, k7'⟩; obtain ⟨gs1, k7''⟩ := k7'.out.2; have k7 := zz k7''; clear k7''; have R7 := zz (hR6.out.old k7'.out.1); have o7 := zz (o6.out.trans k7'.out.1 (fun _ h => .inl h))))
   go_ret
   exact ⟨rfl, o8.out.trans k9.out (fun _ h => .inl h)⟩
theorem again_any (s : ByteArray) (ep : Addr) (w : World) (hG : w.cell? ⟨0, 0, none⟩ = some (.iface 192 (.pointer (some ep)))) (hU : UT w) (h5 : 5 <= w.heap.size) :
  Calls Tryz.prog 4 #[.string s] w fun e w' => e = .returned (.bool true) /\ Below w.heap.size w w' := by
 by_cases hs : s.size <= 65536
 ·exact (again_do s ep w hs hG hU h5).mono (fun e w' h => ⟨h.1, h.2.out.below⟩)
 ·exact (again_long s w (by omega)).mono (fun e w' h => ⟨h.1, h.2.out.below⟩)
end
section
open Go.ChangeShapes Go.WideShapes Go.ChangeAt Go.RowKit Go.Shelf
def plainL : List (String × DataW Unit) := [("math/bits.deBruijn32tab", Rows.laid_math_bits_deBruijn32tab), ("math/bits.deBruijn64tab", Rows.laid_math_bits_deBruijn64tab), ("internal/strconv.uint64pow10", Rows.laid_internal_strconv_uint64pow10), ("unicode/utf8.acceptRanges", Rows.laid_unicode_utf8_acceptRanges), ("strconv.ErrRange", Rows.laid_strconv_ErrRange), ("strconv.ErrSyntax", Rows.laid_strconv_ErrSyntax), ("io.ErrShortWrite", Rows.laid_io_ErrShortWrite), ("io.EOF", Rows.laid_io_EOF), ("unicode.asciiFold", Rows.laid_unicode_asciiFold), ("unicode.caseOrbit", Rows.laid_unicode_caseOrbit), ("bytes.ErrTooLarge", Rows.laid_bytes_ErrTooLarge), ("unicode.CaseRanges", Rows.laid_unicode_CaseRanges), ("unicode/utf8.first", Rows.laid_unicode_utf8_first)]
theorem ownT : ownKnob Tryz.prog.godebug = none := by kernel_rfl
theorem gEOF : Tryz.prog.globalNamed "io.EOF" = some 0 := by kernel_rfl
theorem gEOFType : (Tryz.prog.globals[0]?).map (·.type) = some 70 := by kernel_rfl
theorem star_errorString : "*" ++ "errors.errorString" = "*errors.errorString" := by decide
theorem row192 (u : TypeId) (h : Tryz.prog.typeName? 3 u = some "*errors.errorString") : u = 192 :=
 typeName_ptr_named (nm := "errors.errorString") (by rw [star_errorString]; kernel_rfl) (by kernel_rfl) (by decide) u (by rw [star_errorString]; exact h)
theorem filterIsNone : (Rows.fnEncodeAgainRow.laid.filter fun x => x.2.handleName?.isNone) = plainL := by kernel_rfl
theorem plain_of_laid {W : World} (h : laidMetH Tryz.prog Rows.fnEncodeAgainRow.laid W) : laidMet Tryz.prog plainL W := by
 have h' : laidMet Tryz.prog (Rows.fnEncodeAgainRow.laid.filter fun x => x.2.handleName?.isNone) W /\ handlesMet Tryz.prog [("errors.errorType", Rows.laid_errors_errorType)] W := h
 rw [filterIsNone] at h'
 exact h'.1
theorem eof_of_laid {W : World} (h : laidMet Tryz.prog plainL W) : ∃ a : Addr, W.cell? ⟨0, 0, none⟩ = some (.iface 192 (.pointer (some a))) := by
 obtain ⟨a, s, h1, _⟩ := laid_sentinel (f := { name := "s", type := 9, offset := 0, embedded := false, tag := "", pkgPath := "errors", byteOffset := 0 }) (te := 194) (ts := 9) (tp := 192) h.tail.tail.tail.tail.tail.tail.tail gEOF gEOFType Tryz.underlying70 row192 Tryz.underlying192 Tryz.underlying194 rfl rfl Tryz.underlying9 (by kernel_rfl) (by kernel_rfl)
 exact ⟨a, by simpa using World.var?_cell gEOF h1 0⟩
def ren8 : Ren := ⟨fun x => x, fun x => if x = 119 then 276 else if x = 138 then 278 else if x = 139 then 279 else x, fun x => x⟩
theorem u8types : U8Types Tryz.prog ren8 := ⟨Tryz.underlying5, Tryz.underlying276, Tryz.underlying278, Tryz.underlying279⟩
theorem u8extra : U8Extra Tryz.prog ren8 := ⟨by kernel_rfl, by kernel_rfl, by kernel_rfl, by kernel_rfl, by kernel_rfl, by kernel_rfl, by kernel_rfl⟩
theorem accept_eq : Rows.laid_unicode_utf8_acceptRanges (H := Unit) = Lib.acceptData := by kernel_rfl
theorem utf8_of_laid {W : World} (h : laidMet Tryz.prog plainL W) : UT W := by
 have h4 : Lib.VarReads Tryz.prog W "unicode/utf8.acceptRanges" Lib.acceptData := accept_eq ▸ Lib.laidMet.reads h (.tail _ (.tail _ (.tail _ (.head _))))
 have h3 : Lib.VarReads Tryz.prog W "unicode/utf8.first" Lib.firstData := Pinned.utf8First_eq ▸ Lib.laidMet.reads h (.tail _ (.tail _ (.tail _ (.tail _ (.tail _ (.tail _ (.tail _ (.tail _ (.tail _ (.tail _ (.tail _ (.tail _ (.head _)))))))))))))
 exact utf8Tabs_of_readsT u8types u8extra h3 h4
end
end Go.Proofs.YtepbbahdhhjibaaGreatDoor
