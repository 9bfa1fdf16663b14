/- own text -/
import Derived.Test.YtepbbahdhhjibaaGreatDoorRows
import Derived.Deep.Slices
import Derived.Test.YtepbbahdhhjibaaGreatDoorD29
import Derived.Test.YtepbbahdhhjibaaGreatDoorD37
namespace Go.Proofs.YtepbbahdhhjibaaGreatDoor
set_option linter.unusedSimpArgs false
set_option linter.unusedVariables false
set_option maxHeartbeats 8000000
set_option maxRecDepth 100000
section
open Go.RowKit
theorem list26 {us : List Value} (h : us.length = 26) : ∃ u0 u1 u2 u3 u4 u5 u6 u7 u8 u9 u10 u11 u12 u13 u14 u15 u16 u17 u18 u19 u20 u21 u22 u23 u24 u25, us = [u0, u1, u2, u3, u4, u5, u6, u7, u8, u9, u10, u11, u12, u13, u14, u15, u16, u17, u18, u19, u20, u21, u22, u23, u24, u25] := by
 match us, h with
 | [u0, u1, u2, u3, u4, u5, u6, u7, u8, u9, u10, u11, u12, u13, u14, u15, u16, u17, u18, u19, u20, u21, u22, u23, u24, u25], _ => exact ⟨_, _, _, _, _, _, _, _, _, _, _, _, _, _, _, _, _, _, _, _, _, _, _, _, _, _, rfl⟩
theorem same_do (w : World) (lv1 lv2 : Value) (G1 G2 : List GT) (h1 : LG w lv1 G1) (h2 : LG w lv2 G2) (n1 : G1.length <= 300000) (n2 : G2.length <= 300000) (t1 : ∀ g ∈ G1, g.kind ≠ 3) (t2 : ∀ g ∈ G2, g.kind ≠ 3) (he : G1.map GT.er = G2.map GT.er) :
  Calls Tryz.prog 12 #[lv1, lv2, .bool false] w fun e w' => e = .returned (.bool true) /\ Hid (Old w w') := by
 have hm1 := merged_do w lv1 G1 h1 n1 t1
 have hm2 : ∀ w1, Old w w1 -> Calls Tryz.prog 40 #[lv2] w1 fun e w' => ∃ lv', e = .returned lv' /\ Hid (Old w1 w' /\ RowA w' lv' G2) := fun w1 ho => merged_do w1 lv2 G2 (h2.old ho) n2 t2
 have hlen : G1.length = G2.length := by have := congrArg List.length he; simpa using this
 have hl1 := n1
 have hs1 := h1.shape
 have hs2 := h2.shape
 replace hm1 := zz hm1
 replace hm2 := zz hm2
 replace he := zz he
 obtain ⟨q1, d1, rfl⟩ := hs1
 obtain ⟨q2, d2, rfl⟩ := hs2
 obtain ⟨N, hN⟩ : ∃ N, Hid (N = G1.length) := ⟨_, zz rfl⟩
 have hN2 : Hid (N = G2.length) := zz (by rw [hN.out]; exact hlen)
 rw [<- hN.out] at hl1
 replace hlen := zz hlen
 clear h1 h2 n1 n2 t1 t2
 go_enter Tryz.func12, Tryz.ntmps12
 go_upto_region 2 with (first
  | (go_at_call 40; refine (hm2.out _ k1.out.1).mono ?_; rintro e w2 ⟨r2, rfl, k2⟩)
  | (go_at_call 40; refine hm1.out.mono ?_; rintro e w1 ⟨r1, rfl, k1⟩))
 have hR1 := k1.out.2.old k2.out.1
 have hR2 := k2.out.2
 have hO2 : Old w w2 := k1.out.1.trans k2.out.1 (fun _ h => .inl h)
 obtain ⟨p1, c1, rfl⟩ := hR1.shape
 obtain ⟨p2, c2, rfl⟩ := hR2.shape
 rw [<- hN.out] at hR1 ⊢
 rw [<- hN2.out] at hR2 ⊢
 replace hR1 := zz hR1
 replace hR2 := zz hR2
 replace hO2 := zz hO2
 clear k1 k2
 go_wp2
 go_loopg [19] N (fun k u19 wr => ∃ j : Nat, u19 = .int .i64 j /\ j + k = N /\ Old w2 wr)
 case atStart => exact ⟨0, rfl, by omega, Fr.refl _ _⟩
 case round =>
  obtain ⟨j, rfl, hjk, hO3⟩ := hrel
  obtain ⟨W3, rfl⟩ : ∃ W3, W3 = wr := ⟨_, rfl⟩
  by_cases hj : j < N
  ·have hR13 := hR1.out.old hO3
   have hR23 := hR2.out.old hO3
   rw [hN.out] at hR13
   rw [hN2.out] at hR23
   obtain ⟨g1, e1, pa, ca, hv1, _, hA, a0, a1, a2, a3, a4, a5⟩ := hR13.get j (by have := hN.out; omega)
   obtain ⟨g2, e2, pb, cb, hv2, _, hB, b0, b1, b2, b3, b4, b5⟩ := hR23.get j (by have := hN2.out; omega)
   obtain rfl : p1 = some ⟨g1, 0, none⟩ := by injection hv1
   obtain rfl : p2 = some ⟨g2, 0, none⟩ := by injection hv2
   have heq : (G1[j]'(by have := hN.out; omega)).er = (G2[j]'(by have := hN2.out; omega)).er := by
    have h3 := congrArg (fun l => l[j]?) he.out
    simp only [List.getElem?_map] at h3
    rw [List.getElem?_eq_getElem (by have := hN.out; omega), List.getElem?_eq_getElem (by have := hN2.out; omega)] at h3
    simpa using h3
   generalize G1[j]'(by have := hN.out; omega) = X1 at *
   generalize G2[j]'(by have := hN2.out; omega) = X2 at *
   obtain ⟨m1, m2, m3, m4, m5⟩ := er_eq heq
   rw [<- m1] at b0
   rw [<- m2] at b1
   rw [<- m3] at b2
   rw [<- m5] at b4
   rw [<- m4] at hB b3
   have hal : ∀ w1, Old W3 w1 -> Calls Tryz.prog 41 #[.agg #[.int .i64 X1.kind, .string X1.sp, .string X1.loc, .slice pa (X1.ats.length : Nat) ca, .string X1.txt, .int .i64 X1.pos], .agg #[.int .i64 X1.kind, .string X1.sp, .string X1.loc, .slice pb (X1.ats.length : Nat) cb, .string X1.txt, .int .i64 X2.pos]] w1 fun e w' => e = .returned (.bool true) /\ Hid (Old w1 w') := fun w1 ho =>
    alike_do w1 X1.kind X1.sp X1.loc X1.txt X1.ats pa pb ca cb X1.pos X2.pos (hA.old ho) (hB.old ho)
   have hj2 : (j : Int) < (N : Int) := by omega
   have hI : IntKind.i64.wrap ((j : Int) + 1) = ((j + 1 : Nat) : Int) := by rw [IntWalk.i64_in _ (by omega)]; omega
   replace hI := zz hI
   replace hO3 := zz hO3
   replace hjk := zz hjk
   replace a0 := zz a0
   replace a1 := zz a1
   replace a2 := zz a2
   replace a3 := zz a3
   replace a4 := zz a4
   replace a5 := zz a5
   replace b0 := zz b0
   replace b1 := zz b1
   replace b2 := zz b2
   replace b3 := zz b3
   replace b4 := zz b4
   replace b5 := zz b5
   replace hal := zz hal
   clear hR13 hR23 hv1 hv2 hA hB heq m1 m2 m3 m4 m5
   go_upto_region 7 with fail
   refine wp_cut_slots 22 26 (fun us wx => us[25]? = some (.bool false) /\ Old W3 wx) ?rest (Nat.le_of_ble_eq_true rfl) ?first
   case first =>
    intro J hJ
    exact reg12_do rfl rfl rfl rfl rfl hj (by omega) a0.out a1.out a2.out a3.out a4.out a5.out b0.out b1.out b2.out b3.out b4.out b5.out hal.out (fun a w' h1 h2 h3 => hJ a w' h1 ⟨by rw [List.getElem?_take_of_lt (by omega), List.getElem?_drop, Array.getElem?_toList]; exact h2, h3⟩)
   case rest =>
    intro us hus wa hcut
    obtain ⟨v0, v1, v2, v3, v4, v5, v6, v7, v8, v9, v10, v11, v12, v13, v14, v15, v16, v17, v18, v19, v20, v21, v22, v23, v24, v25, rfl⟩ := list26 hus
    obtain ⟨hu, hO4⟩ := hcut
    obtain rfl : v25 = .bool false := by simpa using hu
    simp only [List.take_succ_cons, List.take_zero, List.drop_succ_cons, List.drop_zero, List.cons_append, List.nil_append]
    have hO5 := hO3.out.trans hO4 (fun _ h => .inl h)
    replace hO5 := zz hO5
    clear hO4 hu hus
    go_wp2
    go_roundg (gk - 1)
    case measure => have := hjk.out; omega
    case rel => exact ⟨j + 1, rfl, by have := hjk.out; omega, hO5.out⟩
  ·have hj2 : ¬ (j : Int) < (N : Int) := by omega
   have hO4 := zz (hO2.out.trans hO3 (fun _ h => .inl h))
   clear hO3 hjk
   go_wp2
   go_ret
   exact ⟨rfl, hO4⟩
end
section
open Go.RowKit
structure GvS (w : World) (tks : List Tk) (i : Nat) (v : Value) (wr : World) : Prop where
 old : Old w wr
 ex : ∃ cs, wr.ownsRow 0 64 8 v i cs /\ TokL wr (fun k => w.heap.size <= k /\ v.ownBlock ≠ some k) (tks.take i) cs
 own : ∀ k, v.ownBlock = some k -> w.heap.size <= k
theorem TokL.keep2 {F : Nat -> Prop} {w w' : World} {A B : Nat -> Prop} (f : Fr F w w') (hA : ∀ k, k < w.heap.size -> A k -> ¬ F k /\ B k) : ∀ {tks : List Tk} {cs : List Value}, TokL w A tks cs -> TokL w' B tks cs := by
 intro tks
 induction tks with
 | nil => intro cs h; exact h
 | cons tk tks ih =>
  rintro cs ⟨av, o, l, c, rest, h1, h2, h3⟩
  refine ⟨av, o, l, c, rest, h1, ?_, ih h3⟩
  cases tk with
  | st nm kv => exact ⟨ownsRow_frame h2.1 f (fun k hk => (hA k (ownsRow_lt h2.1 hk) (h2.2.1 k hk)).1), fun k hk => (hA k (ownsRow_lt h2.1 hk) (h2.2.1 k hk)).2, h2.2.2⟩
  | _ => exact h2
theorem GvS.of_old {w wr w2 : World} {tks : List Tk} {i : Nat} {v : Value} (h : GvS w tks i v wr) (f : Old wr w2) : GvS w tks i v w2 := by
 obtain ⟨cs, h1, h2⟩ := h.ex
 exact ⟨h.old.trans f (fun _ h => .inl h), ⟨cs, ownsRow_frame h1 f (fun _ _ h => h), h2.keep f (fun _ _ h => h)⟩, h.own⟩
theorem GvS.app {w wr w2 : World} {tks : List Tk} {i : Nat} {v : Value} (h : GvS w tks i v wr) {cs : List Value} (hT : TokL wr (fun k => w.heap.size <= k /\ v.ownBlock ≠ some k) (tks.take i) cs) (hi : i < tks.length) {av : Value} (hA : AttrV wr (fun k => w.heap.size <= k /\ v.ownBlock ≠ some k) tks[i] av) {g' c' : Nat}
  (hrow : w2.ownsRow 0 64 8 (.slice (some ⟨g', 0, none⟩) (i + 1 : Nat) c') (i + 1) (cs ++ tokCells tks[i] av 0 0 0)) (f : Fr (fun x => v.ownBlock = some x) wr w2) (hnb : v.ownBlock = some g' \/ wr.heap.size <= g') : GvS w tks (i + 1) (.slice (some ⟨g', 0, none⟩) (i + 1 : Nat) c') w2 := by
 have ho : Old w w2 := h.old.trans f (fun x hx => .inr (h.own x hx))
 have hA2 : ∀ k, k < wr.heap.size -> (w.heap.size <= k /\ v.ownBlock ≠ some k) -> ¬ (v.ownBlock = some k) /\ (w.heap.size <= k /\ (Value.slice (some ⟨g', 0, none⟩) (i + 1 : Nat) c').ownBlock ≠ some k) := fun k hk hk2 => ⟨hk2.2, hk2.1, fun e => by
  have e2 : g' = k := by simpa [Value.ownBlock] using e
  rcases hnb with h1 | h1
  ·exact hk2.2 (by rw [h1, e2])
  ·omega⟩
 refine ⟨ho, ⟨_, hrow, ?_⟩, fun k hk => ?_⟩
 ·rw [List.take_succ_eq_append_getElem hi]
  have h1 : TokL wr (fun k => w.heap.size <= k /\ v.ownBlock ≠ some k) (tks.take i ++ [tks[i]]) (cs ++ tokCells tks[i] av 0 0 0) := TokL.app hA hT
  exact h1.keep2 f hA2
 ·have e2 : g' = k := by simpa [Value.ownBlock] using hk
  subst e2
  have := h.old.size
  rcases hnb with h1 | h1
  ·exact h.own _ h1
  ·omega
theorem lgiven_do (w : World) (lv : Value) (gs : List GT) (tks : List Tk) (h : LG w lv gs) (he : gs.map GT.er = tks.map gtOf) (hel : ∀ t ∈ tks, t.el = true) (hn : tks.length <= 300000) :
  Calls Tryz.prog 10 #[lv] w fun e w' => ∃ lv', e = .returned lv' /\ Hid (Old w w' /\ ToksAt w' w.heap.size lv' tks) := by
 obtain ⟨pv, cv, rfl⟩ := h.shape
 have hlen := map_len he
 obtain ⟨N, hN⟩ : ∃ N, Hid (N = tks.length) := ⟨_, zz rfl⟩
 obtain ⟨i0, hi0, hz0, hz1, hz2⟩ := info_parts info64
 obtain ⟨j0, hj0, kz0, kz1, kz2⟩ := info_parts info73
 rw [hlen]
 rw [<- hN.out] at hn ⊢
 replace h := zz h
 replace he := zz he
 replace hlen := zz hlen
 replace hel := zz hel
 go_enter Tryz.func10, Tryz.ntmps10
 go_wp2
 go_loopg [3, 11] N (fun k u3 u11 wr => ∃ (i : Nat) (po : Option Addr) (co : Nat), u3 = .slice po (i : Nat) co /\ u11 = .int .i64 i /\ i + k = N /\ GvS w tks i (.slice po (i : Nat) co) wr)
 case atStart => exact ⟨0, none, 0, rfl, rfl, by omega, Fr.refl _ _, ⟨[], World.ownsRow_nil _ _ _ _, rfl⟩, fun k hk => (by cases hk)⟩
 case round =>
  obtain ⟨i, po, co, rfl, rfl, hik, hS⟩ := hrel
  obtain ⟨W1, rfl⟩ : ∃ W1, W1 = wr := ⟨_, rfl⟩
  by_cases hi : i < N
  ·have hit : i < tks.length := by have := hN.out; omega
   have hig : i < gs.length := by rw [hlen.out]; exact hit
   obtain ⟨g, o, pa, ca, rfl, hA, e1, e2, e3, e4, e5, e6⟩ := h.out.get i hig
   have heq : gs[i].er = gtOf tks[i] := by
    have h3 := congrArg (fun l => l[i]?) he.out
    simp only [List.getElem?_map] at h3
    rw [List.getElem?_eq_getElem hig, List.getElem?_eq_getElem hit] at h3
    simpa using h3
   have helt := hel.out _ (List.getElem_mem hit)
   generalize gs[i]'hig = T0 at *
   obtain ⟨kind, sp, loc, ats, txt, pos⟩ := T0
   dsimp only at hA e1 e2 e3 e4 e5 e6
   obtain ⟨tk, htk⟩ : ∃ tk, Hid (tk = tks[i]) := ⟨_, zz rfl⟩
   rw [<- htk.out] at heq helt
   rw [gtOf_all] at heq
   have m1 : kind = tk.kind := congrArg GT.kind heq
   have m2 : sp = ⟨#[]⟩ := congrArg GT.sp heq
   have m3 : loc = tk.loc := congrArg GT.loc heq
   have m4 : ats = kvA tk.kv := congrArg GT.ats heq
   have m5 : txt = tk.text := congrArg GT.txt heq
   have hal : ats.length = tk.kv.length := by rw [m4]; simp [kvA]
   obtain ⟨M, hM⟩ : ∃ M, Hid (M = tk.kv.length) := ⟨_, zz rfl⟩
   have hMl : M <= 549755813888 := by
    obtain ⟨_, _, _, _, h⟩ := hA.shape
    rw [hM.out, <- hal]; exact h
   rw [hal, <- hM.out] at hA e4
   have d1 := hS.old.cell e1
   have d2 := hS.old.cell e2
   have d3 := hS.old.cell e3
   have d4 := hS.old.cell e4
   have d5 := hS.old.cell e5
   have d6 := hS.old.cell e6
   have hi2 : (i : Int) < (N : Int) := by omega
   have hI : IntKind.i64.wrap ((i : Int) + 1) = ((i + 1 : Nat) : Int) := by rw [IntWalk.i64_in _ (by omega)]; omega
   obtain ⟨R, hR⟩ : ∃ R, R = W1.heap.size := ⟨_, rfl⟩
   obtain ⟨W2, hW2⟩ : ∃ W2, W2 = W1.alloc (.cells #[.int .i64 kind, .string sp, .string loc, .slice pa (M : Nat) ca, .string txt, .int .i64 pos] 28) := ⟨_, rfl⟩
   have hb : Blk W2 R #[.int .i64 kind, .string sp, .string loc, .slice pa (M : Nat) ca, .string txt, .int .i64 pos] 28 := by rw [hW2, hR]; exact Blk.new W1 _ _
   have hO12 : Old W1 W2 := by rw [hW2]; exact (Fr.refl _ W1).alloc _
   have hS2 : GvS w tks i (.slice po (i : Nat) co) W2 := hS.of_old hO12
   have hwR : w.heap.size <= R := by rw [hR]; exact hS.old.size
   have hown : ∀ k, (Value.slice po (i : Nat) co).ownBlock = some k -> k < R := fun k hk => by
    obtain ⟨cs, h1, _⟩ := hS.ex
    rw [hR]; exact ownsRow_lt h1 hk
   have hR2 : R < W2.heap.size := hb.lt
   have y3 : W2.cell? ⟨R, 3, none⟩ = some (.slice pa (M : Nat) ca) := by rw [hb.cell]; rfl
   replace hS := zz hS
   replace hS2 := zz hS2
   replace hA := zz hA
   replace hb := zz hb
   replace hik := zz hik
   replace hI := zz hI
   replace hown := zz hown
   replace hO12 := zz hO12
   replace m1 := zz m1
   replace m2 := zz m2
   replace m3 := zz m3
   replace m4 := zz m4
   replace m5 := zz m5
   replace hal := zz hal
   replace helt := zz helt
   clear e1 e2 e3 e4 e5 e6 heq
   go_upto_region 5 with fail
   rw [<- hW2, <- hR]
   replace hW2 := zz hW2
   replace hR := zz hR
   clear d1 d2 d3 d4 d5 d6
   obtain ⟨ko, rfl⟩ : ∃ ko, ko = gk := ⟨_, rfl⟩
   go_wp2
   go_loopg [6, 18] M (fun k u6 u18 wr => ∃ (j : Nat) (p6 : Option Addr) (c6 : Nat), u6 = .slice p6 (j : Nat) c6 /\ u18 = .int .i64 j /\ j + k = M /\ Old W2 wr /\ wr.ownsRow 0 73 3 (.slice p6 (j : Nat) c6) j (kvCells (tk.kv.take j)) /\ (∀ k, (Value.slice p6 (j : Nat) c6).ownBlock = some k -> W2.heap.size <= k) /\ (j = 0 -> p6 = none /\ c6 = 0))
   case atStart => exact ⟨0, none, 0, rfl, rfl, by omega, Fr.refl _ _, World.ownsRow_nil _ _ _ _, fun k hk => (by cases hk), fun _ => ⟨rfl, rfl⟩⟩
   case round =>
    obtain ⟨j, p6, c6, rfl, rfl, hjk, hO3, hrow6, hown6, hz6⟩ := hrel
    obtain ⟨W3, rfl⟩ : ∃ W3, W3 = wr := ⟨_, rfl⟩
    by_cases hj : j < M
    ·have hjt : j < tk.kv.length := by have := hM.out; omega
     have hja : j < ats.length := by rw [hal.out]; exact hjt
     obtain ⟨ga, oa, rfl, x1, x2, x3⟩ := hA.out.get j hja
     have hOw : Old w W3 := (hS.out.old.trans hO12.out (fun _ h => .inl h)).trans hO3 (fun _ h => .inl h)
     have q0 := hOw.cell x1
     have q1 := hOw.cell x2
     have q2 := hOw.cell x3
     have haj : ats[j]'hja = (⟨#[]⟩, nameB (tk.kv[j]'hjt).1, nameB (tk.kv[j]'hjt).2) := by
      have : ats[j]? = some ((⟨#[]⟩ : ByteArray), nameB (tk.kv[j]'hjt).1, nameB (tk.kv[j]'hjt).2) := by
       rw [m4.out]; unfold kvA; rw [List.getElem?_map, List.getElem?_eq_getElem hjt]; rfl
      rw [List.getElem?_eq_getElem hja] at this
      exact Option.some.inj this
     rw [haj] at q0 q1 q2
     dsimp only at q0 q1 q2
     have htake := kvCells_take hjt
     generalize nameB (tk.kv[j]'hjt).1 = lo at q1 htake haj
     generalize nameB (tk.kv[j]'hjt).2 = vl at q2 htake haj
     have hj2 : (j : Int) < (M : Int) := by omega
     have hJ : IntKind.i64.wrap ((j : Int) + 1) = ((j + 1 : Nat) : Int) := by rw [IntWalk.i64_in _ (by omega)]; omega
     have hnews : ∀ (m : Nat) (u : Value), [Value.string ⟨#[]⟩, .string lo, .string vl][m]? = some u -> ((W3.alloc (.cells #[.string ⟨#[]⟩, .string lo, .string vl] 30)).alloc (.cells #[.string ⟨#[]⟩, .string lo, .string vl] 73)).cell? ((⟨W3.heap.size + 1, 0, none⟩ : Addr).add m) = some u := by
      have h := news_alloc (W3.alloc (.cells #[.string ⟨#[]⟩, .string lo, .string vl] 30)) [.string ⟨#[]⟩, .string lo, .string vl] 73
      rw [show (W3.alloc (.cells #[.string ⟨#[]⟩, .string lo, .string vl] 30)).heap.size = W3.heap.size + 1 by simp] at h
      exact h
     replace hnews := zz hnews
     replace hJ := zz hJ
     replace hO3 := zz hO3
     replace hrow6 := zz hrow6
     replace hown6 := zz hown6
     replace hjk := zz hjk
     replace htake := zz htake
     clear haj x1 x2 x3 hOw hz6
     go_wp2_with (at_builtin; refine wpList_append rfl _ _ 62 rfl 73 j0 _ 3 48 Tryz.underlying62 hj0 kz0 kz1 kz2 rfl (by decide) _ j _ (by rfl) (ownsRow_frame (F := fun _ => False) hrow6.out (((Fr.refl _ W3).alloc _).alloc _) (fun _ _ h => h)) _ 1 1 [.string ⟨#[]⟩, .string lo, .string vl] (by rfl) (by rfl) (by decide) hnews.out (by intro u hu; simp at hu; rcases hu with rfl | rfl | rfl <;> rfl) (by unfold maxLen; omega) (by omega) ?_; intro g' c' w12 hrow' hgrow hnb; have f12 := (((Fr.refl (fun x => (Value.slice p6 (j : Nat) c6).ownBlock = some x) W3).alloc _).alloc _).grown hgrow (fun k hk => Or.inl hk); replace hrow' := zz hrow'; replace hnb := zz hnb; replace f12 := zz f12; clear hgrow)
     go_roundg (gk - 1)
     case measure => have := hjk.out; omega
     case rel =>
      refine ⟨j + 1, some ⟨g', 0, none⟩, c', rfl, rfl, by have := hjk.out; omega, hO3.out.trans f12.out (fun x hx => .inr (hown6.out x hx)), by rw [htake.out]; exact hrow'.out, fun k hk => ?_, fun h => by omega⟩
      have e2 : g' = k := by simpa [Value.ownBlock] using hk
      subst e2
      rcases hnb.out with h1 | h1
      ·exact hown6.out _ h1
      ·have := hO3.out.size; simp at h1; omega
    ·have hjM : j = M := by omega
     subst hjM
     have hj2 : ¬ (j : Int) < (j : Int) := by omega
     have hb3 := hb.out.keep hO3 (fun h => h)
     have y0 : W3.cell? ⟨R, 0, none⟩ = some (.int .i64 kind) := by rw [hb3.cell]; rfl
     have y1 : W3.cell? ⟨R, 1, none⟩ = some (.string sp) := by rw [hb3.cell]; rfl
     have y2 : W3.cell? ⟨R, 2, none⟩ = some (.string loc) := by rw [hb3.cell]; rfl
     have y4 : W3.cell? ⟨R, 4, none⟩ = some (.string txt) := by rw [hb3.cell]; rfl
     have hS3 : GvS w tks i (.slice po (i : Nat) co) W3 := hS2.out.of_old hO3
     obtain ⟨cs, g1, g2⟩ := hS3.ex
     have hAV : AttrV W3 (fun k => w.heap.size <= k /\ (Value.slice po (i : Nat) co).ownBlock ≠ some k) tk (.slice p6 (j : Nat) c6) := by
      have hA1 : ∀ k, (Value.slice p6 (j : Nat) c6).ownBlock = some k -> w.heap.size <= k /\ (Value.slice po (i : Nat) co).ownBlock ≠ some k := fun k hk => by
       have h1 := hown6 k hk
       exact ⟨by omega, fun e => by have := hown.out k e; omega⟩
      have hl := hM.out
      have het := helt.out
      cases tk with
      | st nm kv =>
       have hl' : j = kv.length := hl
       refine ⟨?_, hA1, by omega⟩
       have hr := hrow6
       rw [show (Tk.st nm kv).kv = kv from rfl, hl', List.take_length] at hr
       rw [hl']; exact hr
      | en nm =>
       have hl' : j = 0 := hl
       obtain ⟨rfl, rfl⟩ := hz6 hl'
       subst hl'
       rfl
      | tx rs => cases het
      | cm d => cases het
      | pi nm d => cases het
     have happ : ∀ (w12 : World) (g' c' : Nat), w12.ownsRow 0 64 8 (.slice (some ⟨g', 0, none⟩) (i + 1 : Nat) c') (i + 1) (cs ++ [.int .i64 kind, .string sp, .string loc, .slice p6 (j : Nat) c6, .string txt, .int .i64 0, .int .i64 0, .int .i64 0]) -> Fr (fun x => (Value.slice po (i : Nat) co).ownBlock = some x) W3 w12 -> ((Value.slice po (i : Nat) co).ownBlock = some g' \/ W3.heap.size <= g') -> GvS w tks (i + 1) (.slice (some ⟨g', 0, none⟩) (i + 1 : Nat) c') w12 := fun w12 g' c' er ef en => by
      refine hS3.app g2 hit (av := .slice p6 (j : Nat) c6) (by rw [<- htk.out]; exact hAV) ?_ ef en
      rw [m1.out, m2.out, m3.out, m5.out] at er
      rw [<- htk.out]
      exact er
     replace happ := zz happ
     replace g1 := zz g1
     replace hb3 := zz hb3
     clear hO3 hjk hrow6 hown6 hS3 g2 hAV hz6
     go_wp2_with (at_builtin; refine wpList_append rfl _ _ 34 rfl 64 i0 _ 8 104 Tryz.underlying34 hi0 hz0 hz1 hz2 rfl (by decide) _ i cs (by rfl) (ownsRow_frame (F := fun _ => False) g1.out ((Fr.refl _ W3).alloc _) (fun _ _ h => h)) _ 1 1 [.int .i64 kind, .string sp, .string loc, .slice p6 (j : Nat) c6, .string txt, .int .i64 0, .int .i64 0, .int .i64 0] (by rfl) (by rfl) (by decide) (news_alloc _ [.int .i64 kind, .string sp, .string loc, .slice p6 (j : Nat) c6, .string txt, .int .i64 0, .int .i64 0, .int .i64 0] 64) (by intro u hu; simp at hu; rcases hu with rfl | rfl | rfl | rfl | rfl | rfl | rfl | rfl <;> rfl) (by unfold maxLen; omega) (by omega) ?_; intro g' c' w12 hrow' hgrow hnb; have f12 := ((Fr.refl (fun x => (Value.slice po (i : Nat) co).ownBlock = some x) W3).alloc _).grown hgrow (fun k hk => Or.inl hk); replace hrow' := zz hrow'; replace hnb := zz hnb; replace f12 := zz f12; clear hgrow)
     go_roundg (ko - 1)
     case measure => have := hik.out; omega
     case rel => exact ⟨i + 1, some ⟨g', 0, none⟩, c', rfl, rfl, by have := hik.out; omega, happ.out w12 g' c' hrow'.out f12.out (hnb.out.imp id (fun h => by simp at h; omega))⟩
  ·have hi2 : ¬ (i : Int) < (N : Int) := by omega
   have hiN : i = N := by omega
   subst hiN
   replace hS := zz hS
   clear hik
   go_wp2
   go_ret
   obtain ⟨cs, h1, h2⟩ := hS.out.ex
   rw [hN.out, List.take_length] at h2
   rw [hN.out] at h1 ⊢
   exact ⟨_, rfl, hS.out.old, ⟨cs, h1, h2⟩, by have := hS.out.own; rw [hN.out] at this; exact this⟩
end
section
open Go.RowKit
theorem blank_do (s : ByteArray) (hs : s.size <= 549755813888) (w : World) : Calls Tryz.prog 7 #[.string s] w fun e w' => ∃ r : Bool, e = .returned (.bool r) /\ Hid (w' = w /\ (r = true -> blankL s.data.toList /\ s.size <= 100)) := by
 have hsl : s.size = s.data.toList.length := Lib.size_eq s
 replace hsl := zz hsl
 go_enter Tryz.func7, Tryz.ntmps7
 go_wp2
 go_loopg [6] s.size (fun k u6 wr => ∃ i : Nat, u6 = .int .i64 i /\ i + k = s.size /\ wr = w /\ blankL (s.data.toList.take i))
 case atStart => exact ⟨0, rfl, by omega, rfl, fun c hc => (by simp at hc)⟩
 case round =>
  obtain ⟨i, rfl, hik, rfl, hb⟩ := hrel
  by_cases hi : i < s.size
  ·have i1 : (i : Int) < (s.size : Int) := by omega
   have i2 : IntKind.i64.wrap ((i : Int) + 1) = ((i + 1 : Nat) : Int) := by rw [IntWalk.i64_in _ (by omega)]; omega
   have hc := get_data s i
   have hil : i < s.data.toList.length := by rw [<- hsl.out]; exact hi
   have htk : s.data.toList.take (i + 1) = s.data.toList.take i ++ [s.data.toList[i]] := List.take_succ_eq_append_getElem hil
   have hgd : s.data.toList.getD i 0 = s.data.toList[i] := by rw [List.getD_eq_getElem?_getD, List.getElem?_eq_getElem hil]; rfl
   rw [hgd] at hc
   generalize s.data.toList[i]'hil = c at *
   obtain ⟨n, hn⟩ : ∃ n, n = c.toNat := ⟨_, rfl⟩
   rw [<- hn] at hc
   have hcs : (n = 32 /\ c = 32) \/ (n = 9 /\ c = 9) \/ (((n : Int) != 32) = true /\ ((n : Int) != 9) = true /\ ((n : Int) == 32) = false /\ ((n : Int) == 9) = false /\ ¬ n = 32 /\ ¬ n = 9) := by
    by_cases h1 : n = 32
    ·exact .inl ⟨h1, UInt8.toNat_inj.1 (by rw [<- hn]; exact h1)⟩
    by_cases h2 : n = 9
    ·exact .inr (.inl ⟨h2, UInt8.toNat_inj.1 (by rw [<- hn]; exact h2)⟩)
    exact .inr (.inr ⟨by rw [bne_iff_ne]; omega, by rw [bne_iff_ne]; omega, by rw [beq_eq_false_iff_ne]; omega, by rw [beq_eq_false_iff_ne]; omega, h1, h2⟩)
   have hnext : c = 32 \/ c = 9 -> blankL (s.data.toList.take (i + 1)) := fun h x hx => by
    rw [htk] at hx
    rcases List.mem_append.1 hx with hx | hx
    ·exact hb x hx
    ·rw [List.mem_singleton.1 hx]; exact h
   replace hnext := zz hnext
   replace hik := zz hik
   replace hn := zz hn
   clear hb htk hgd hil
   rcases hcs with ⟨rfl, h⟩ | ⟨rfl, h⟩ | ⟨a1, a2, a3, a4, a5, a6⟩
   ·have hx := hnext.out (.inl h)
    replace hx := zz hx
    clear h
    go_wp2
    go_roundg (gk - 1)
    case measure => have := hik.out; omega
    case rel => exact ⟨i + 1, rfl, by have := hik.out; omega, rfl, hx.out⟩
   ·have hx := hnext.out (.inr h)
    replace hx := zz hx
    clear h
    go_wp2
    go_roundg (gk - 1)
    case measure => have := hik.out; omega
    case rel => exact ⟨i + 1, rfl, by have := hik.out; omega, rfl, hx.out⟩
   ·go_wp2
    go_ret
    first | exact .inl ⟨rfl, rfl⟩ | exact ⟨false, rfl, rfl, fun h => by cases h⟩
  ·have i1 : ¬ (i : Int) < (s.size : Int) := by omega
   have hall : blankL s.data.toList := by
    rwa [List.take_of_length_le (by rw [<- hsl.out]; omega)] at hb
   replace hall := zz hall
   clear hb
   by_cases h100 : s.size <= 100
   ·have x1 : (s.size : Int) <= 100 := by omega
    replace h100 := zz h100
    go_wp2
    go_ret
    exact .inr ⟨rfl, rfl, hall.out, h100.out⟩
   ·have x1 : ¬ (s.size : Int) <= 100 := by omega
    replace h100 := zz h100
    go_wp2
    go_ret
    first | exact .inl ⟨rfl, rfl⟩ | exact ⟨false, rfl, rfl, fun h => by cases h⟩
theorem has_do (s : ByteArray) (hs : s.size <= 549755813888) (w : World) : Calls Tryz.prog 8 #[.string s, .int .u8 10] w fun e w' => ∃ r : Bool, e = .returned (.bool r) /\ Hid (w' = w) := by
 go_enter Tryz.func8, Tryz.ntmps8
 go_wp2
 go_loopg [8] s.size (fun k u8 wr => ∃ i : Nat, u8 = .int .i64 i /\ i + k = s.size /\ wr = w)
 case atStart => exact ⟨0, rfl, by omega, rfl⟩
 case round =>
  obtain ⟨i, rfl, hik, rfl⟩ := hrel
  by_cases hi : i < s.size
  ·have i1 : (i : Int) < (s.size : Int) := by omega
   have i2 : IntKind.i64.wrap ((i : Int) + 1) = ((i + 1 : Nat) : Int) := by rw [IntWalk.i64_in _ (by omega)]; omega
   replace hik := zz hik
   cases hx : (((s[i]'hi).toNat : Int) == 10)
   ·go_wp2
    go_roundg (gk - 1)
    case measure => have := hik.out; omega
    case rel => exact ⟨i + 1, rfl, by have := hik.out; omega, rfl⟩
   ·go_wp2
    go_ret
    first | exact .inr rfl | exact ⟨.inr rfl, rfl⟩ | exact ⟨true, rfl, rfl⟩
  ·have i1 : ¬ (i : Int) < (s.size : Int) := by omega
   go_wp2
   go_ret
   first | exact .inl rfl | exact ⟨.inl rfl, rfl⟩ | exact ⟨false, rfl, rfl⟩
end
section
open Go.ChangeShapes Go.WideShapes Go.RowKit
def atBulk (ats : List (ByteArray × ByteArray × ByteArray)) : Nat := (ats.map fun x => x.1.size + x.2.1.size + x.2.2.size + 4).sum
def gtBulk (g : GT) : Nat := g.sp.size + g.loc.size + g.txt.size + atBulk g.ats + 7
def gsBulk (gs : List GT) : Nat := (gs.map gtBulk).sum
theorem bulk_range {H : Type} (D : Nat -> DataW H) (b : Nat -> Nat) : ∀ n, (∀ i, i < n -> b i <= Rows.uptoBulk (D i)) -> ((List.range n).map b).sum <= Rows.uptoBulkAll ((List.range n).map D) := by
 have happ : ∀ (l r : List (DataW H)), Rows.uptoBulkAll (l ++ r) = Rows.uptoBulkAll l + Rows.uptoBulkAll r := by
  intro l r
  induction l with
  | nil => simp [Rows.uptoBulkAll]
  | cons x l ih => simp only [List.cons_append, Rows.uptoBulkAll, ih]; omega
 intro n
 induction n with
 | zero => intro _; simp [Rows.uptoBulkAll]
 | succ n ih =>
  intro h
  rw [List.range_succ, List.map_append, List.map_append, List.sum_append, happ]
  have h1 := ih (fun i hi => h i (by omega))
  have h2 := h n (by omega)
  simp only [List.map_cons, List.map_nil, List.sum_cons, List.sum_nil, Rows.uptoBulkAll]
  omega
section
variable {H : Type} {enc : TypeId × Value -> H} {W : World} {base : Nat} {spare : Nat -> Bool} {held : Bool}
theorem c9 : Tryz.prog.cellsOf 9 = 1 := by kernel_rfl
theorem c3 : Tryz.prog.cellsOf 3 = 1 := by kernel_rfl
theorem c26 : Tryz.prog.cellsOf 26 = 1 := by kernel_rfl
theorem c30 : Tryz.prog.cellsOf 30 = 3 := by kernel_rfl
theorem c28 : Tryz.prog.cellsOf 28 = 6 := by kernel_rfl
theorem open_attr {fuel : Nat} {cs : List Value} {x : DataW H × List MemPlace} (h : DataW.trod enc Tryz.prog W base spare held fuel 30 cs = some x) : ∃ a b c : ByteArray, cs = [.string a, .string b, .string c] /\ Rows.uptoBulk x.1 = a.size + b.size + c.size + 4 := by
 obtain ⟨xs, n, _, rfl, hl, hxl, hf⟩ := DataW.trod_struct Tryz.underlying30 h
 rw [c30] at hl
 have h0 : DataW.trod enc Tryz.prog W base spare held n 9 (List.take (Tryz.prog.cellsOf 9) (List.drop 0 cs)) = xs[0]? := hf 0 _ rfl
 have h1 : DataW.trod enc Tryz.prog W base spare held n 9 (List.take (Tryz.prog.cellsOf 9) (List.drop 1 cs)) = xs[1]? := hf 1 _ rfl
 have h2 : DataW.trod enc Tryz.prog W base spare held n 9 (List.take (Tryz.prog.cellsOf 9) (List.drop 2 cs)) = xs[2]? := hf 2 _ rfl
 simp only [c9] at h0 h1 h2
 match cs, hl, xs, hxl, h0, h1, h2 with
 | [c0, c1, c2], _, [x0, x1, x2], _, h0, h1, h2 =>
  obtain ⟨a, ha, rfl, _⟩ := DataW.trod_string Tryz.underlying9 h0
  obtain ⟨b, hb, rfl, _⟩ := DataW.trod_string Tryz.underlying9 h1
  obtain ⟨c, hc, rfl, _⟩ := DataW.trod_string Tryz.underlying9 h2
  simp at ha hb hc
  subst ha hb hc
  refine ⟨a, b, c, rfl, ?_⟩
  simp only [List.map_cons, List.map_nil, Rows.uptoBulk, Rows.uptoBulkAll, <- Lib.size_eq]
  omega
instance : Inhabited GT := ⟨⟨0, ⟨#[]⟩, ⟨#[]⟩, [], ⟨#[]⟩, 0⟩⟩
instance : Inhabited Value := ⟨.nilIface⟩
theorem plain_addr {a : Addr} {v : Value} (h : W.cell? a = some v) : ∃ b o, a = ⟨b, o, none⟩ := by
 obtain ⟨b, o, spot⟩ := a
 have hs : spot = none := World.cell?_spot h
 exact ⟨b, o, by rw [hs]⟩
theorem open_attrs {fuel : Nat} {c : Value} {x : DataW H × List MemPlace} (h : DataW.trod enc Tryz.prog W base spare held fuel 26 [c] = some x) (hB : Rows.uptoBulk x.1 <= 1048576) : ∃ ats, AtL W c ats /\ atBulk ats + 1 <= Rows.uptoBulk x.1 := by
 rcases Go.Deep.open_slice Tryz.underlying26 h with ⟨hc, rfl⟩ | ⟨a, len, cap, m, n, D, Pl, hc, _, hle, hcm, hm, rfl, hx⟩
 ·have hc' : c = .slice none 0 0 := by simpa using hc
  subst hc'
  exact ⟨[], ⟨none, 0, rfl, Nat.le_refl _, by simp, fun i hi => absurd hi (Nat.not_lt_zero _)⟩, by simp [atBulk, Rows.uptoBulk]⟩
 ·have hc' : c = .slice (some a) len cap := by simpa using hc
  subst hc'
  rw [c30] at hx
  have hlm : len <= m := by rw [hm]; split <;> omega
  obtain ⟨f, hfx⟩ := Go.Deep.choose_lt (α := ByteArray × ByteArray × ByteArray) (n := len) (p := fun i y => W.cells? base (a.add (i * 3)) 3 = some [.string y.1, .string y.2.1, .string y.2.2] /\ Rows.uptoBulk (D i) = y.1.size + y.2.1.size + y.2.2.size + 4) (fun i hi => by
   obtain ⟨cs', k1, k2⟩ := hx i (by omega)
   obtain ⟨p, q, r, rfl, k3⟩ := open_attr k2
   exact ⟨(p, q, r), k1, k3⟩)
  have hal : ((List.range len).map f).length = len := by simp
  have hbk := bulk_range D (fun i => (f i).1.size + (f i).2.1.size + (f i).2.2.size + 4) len (fun i hi => Nat.le_of_eq (hfx i hi).2.symm)
  have hbl : len <= ((List.range len).map fun i => (f i).1.size + (f i).2.1.size + (f i).2.2.size + 4).sum := by
   clear hbk hal hfx hx hB h hc hle hcm hm hlm
   induction len with
   | zero => simp
   | succ n ih => rw [List.range_succ, List.map_append, List.sum_append]; simp; omega
  simp only [Rows.uptoBulk] at hB ⊢
  refine ⟨(List.range len).map f, ⟨some a, cap, by rw [hal], by rw [hal]; exact hle, by rw [hal]; omega, fun i hi => ?_⟩, ?_⟩
  ·rw [hal] at hi
   obtain ⟨_, _, k3⟩ := World.cells?_some (hfx i hi).1
   have z0 := k3 0 (by omega)
   have z1 := k3 1 (by omega)
   have z2 := k3 2 (by omega)
   rw [Go.Deep.add_add] at z0 z1 z2
   obtain ⟨b, o, rfl⟩ := plain_addr (a := a) (W := W) ((World.cells?_some (hfx 0 (by omega)).1).2.2 0 (by omega))
   simp only [add_plain, Nat.add_zero] at z0 z1 z2
   have hfi : ((List.range len).map f)[i]'(by rw [hal]; exact hi) = f i := by simp
   rw [hfi]
   exact ⟨b, o, rfl, z0, by rw [Nat.add_assoc]; exact z1, by rw [Nat.add_assoc]; exact z2⟩
  ·have : atBulk ((List.range len).map f) = ((List.range len).map fun i => (f i).1.size + (f i).2.1.size + (f i).2.2.size + 4).sum := by
    unfold atBulk; rw [List.map_map]; rfl
   omega
theorem open_tok {fuel : Nat} {cs : List Value} {x : DataW H × List MemPlace} (h : DataW.trod enc Tryz.prog W base spare held fuel 28 cs = some x) (hB : Rows.uptoBulk x.1 <= 1048576) : ∃ (g : GT) (av : Value), cs = gtCells g av /\ AtL W av g.ats /\ gtBulk g <= Rows.uptoBulk x.1 := by
 obtain ⟨xs, n, _, rfl, hl, hxl, hf⟩ := DataW.trod_struct Tryz.underlying28 h
 rw [c28] at hl
 have h0 : DataW.trod enc Tryz.prog W base spare held n 3 (List.take (Tryz.prog.cellsOf 3) (List.drop 0 cs)) = xs[0]? := hf 0 _ rfl
 have h1 : DataW.trod enc Tryz.prog W base spare held n 9 (List.take (Tryz.prog.cellsOf 9) (List.drop 1 cs)) = xs[1]? := hf 1 _ rfl
 have h2 : DataW.trod enc Tryz.prog W base spare held n 9 (List.take (Tryz.prog.cellsOf 9) (List.drop 2 cs)) = xs[2]? := hf 2 _ rfl
 have h3 : DataW.trod enc Tryz.prog W base spare held n 26 (List.take (Tryz.prog.cellsOf 26) (List.drop 3 cs)) = xs[3]? := hf 3 _ rfl
 have h4 : DataW.trod enc Tryz.prog W base spare held n 9 (List.take (Tryz.prog.cellsOf 9) (List.drop 4 cs)) = xs[4]? := hf 4 _ rfl
 have h5 : DataW.trod enc Tryz.prog W base spare held n 3 (List.take (Tryz.prog.cellsOf 3) (List.drop 5 cs)) = xs[5]? := hf 5 _ rfl
 simp only [c9, c3, c26] at h0 h1 h2 h3 h4 h5
 match cs, hl, xs, hxl, h0, h1, h2, h3, h4, h5 with
 | [d0, d1, d2, d3, d4, d5], _, [x0, x1, x2, x3, x4, x5], _, h0, h1, h2, h3, h4, h5 =>
  obtain ⟨k, hk, rfl, _⟩ := DataW.trod_int Tryz.underlying3 h0
  obtain ⟨a, ha, rfl, _⟩ := DataW.trod_string Tryz.underlying9 h1
  obtain ⟨b, hb, rfl, _⟩ := DataW.trod_string Tryz.underlying9 h2
  obtain ⟨t, ht, rfl, _⟩ := DataW.trod_string Tryz.underlying9 h4
  obtain ⟨p, hp, rfl, _⟩ := DataW.trod_int Tryz.underlying3 h5
  simp at hk ha hb ht hp
  subst hk ha hb ht hp
  simp only [List.map_cons, List.map_nil, Rows.uptoBulk, Rows.uptoBulkAll, <- Lib.size_eq] at hB
  have h3' : DataW.trod enc Tryz.prog W base spare held n 26 [d3] = some x3 := h3
  obtain ⟨ats, hA, hbk⟩ := open_attrs h3' (by omega)
  refine ⟨⟨k, a, b, ats, t, p⟩, d3, rfl, hA, ?_⟩
  simp only [List.map_cons, List.map_nil, Rows.uptoBulk, Rows.uptoBulkAll, <- Lib.size_eq, gtBulk]
  omega
theorem open_toks {fuel : Nat} {c : Value} {x : DataW H × List MemPlace} (h : DataW.trod enc Tryz.prog W base spare held fuel 22 [c] = some x) (hB : Rows.uptoBulk x.1 <= 1048576) : ∃ gs, LG W c gs /\ gsBulk gs + 1 <= Rows.uptoBulk x.1 := by
 rcases Go.Deep.open_slice Tryz.underlying22 h with ⟨hc, rfl⟩ | ⟨a, len, cap, m, n, D, Pl, hc, _, hle, hcm, hm, rfl, hx⟩
 ·have hc' : c = .slice none 0 0 := by simpa using hc
  subst hc'
  exact ⟨[], ⟨none, 0, rfl, fun i hi => absurd hi (Nat.not_lt_zero _)⟩, by simp [gsBulk, Rows.uptoBulk]⟩
 ·have hc' : c = .slice (some a) len cap := by simpa using hc
  subst hc'
  rw [c28] at hx
  have hlm : len <= m := by rw [hm]; split <;> omega
  simp only [Rows.uptoBulk] at hB ⊢
  have hone : ∀ i, i < len -> Rows.uptoBulk (D i) <= Rows.uptoBulkAll ((List.range len).map D) := fun i hi => by
   have hmem : D i ∈ (List.range len).map D := List.mem_map.2 ⟨i, List.mem_range.2 hi, rfl⟩
   clear hx hB hc hle hcm hm hlm h
   generalize (List.range len).map D = l at hmem
   induction l with
   | nil => cases hmem
   | cons y l ih =>
    simp only [Rows.uptoBulkAll]
    rcases List.mem_cons.1 hmem with e | e
    ·rw [e]; omega
    ·have := ih e; omega
  obtain ⟨f, hfx⟩ := Go.Deep.choose_lt (α := GT × Value) (n := len) (p := fun i y => W.cells? base (a.add (i * 6)) 6 = some (gtCells y.1 y.2) /\ AtL W y.2 y.1.ats /\ gtBulk y.1 <= Rows.uptoBulk (D i)) (fun i hi => by
   obtain ⟨cs', k1, k2⟩ := hx i (by omega)
   have := hone i hi
   obtain ⟨g, av, rfl, k3, k4⟩ := open_tok k2 (by show Rows.uptoBulk (D i) <= _; omega)
   exact ⟨(g, av), k1, k3, k4⟩)
  have hal : ((List.range len).map fun i => (f i).1).length = len := by simp
  have hbk := bulk_range D (fun i => gtBulk (f i).1) len (fun i hi => (hfx i hi).2.2)
  refine ⟨(List.range len).map fun i => (f i).1, ⟨some a, cap, by rw [hal], fun i hi => ?_⟩, ?_⟩
  ·rw [hal] at hi
   obtain ⟨k1, k2, _⟩ := hfx i hi
   obtain ⟨_, _, k3⟩ := World.cells?_some k1
   have z0 := k3 0 (by omega)
   have z1 := k3 1 (by omega)
   have z2 := k3 2 (by omega)
   have z3 := k3 3 (by omega)
   have z4 := k3 4 (by omega)
   have z5 := k3 5 (by omega)
   rw [Go.Deep.add_add] at z0 z1 z2 z3 z4 z5
   obtain ⟨b, o, rfl⟩ := plain_addr (a := a) (W := W) ((World.cells?_some (hfx 0 (by omega)).1).2.2 0 (by omega))
   simp only [add_plain, Nat.add_zero] at z0 z1 z2 z3 z4 z5
   have hfi : ((List.range len).map fun i => (f i).1)[i]'(by rw [hal]; exact hi) = (f i).1 := by simp
   rw [hfi]
   exact ⟨b, o, (f i).2, rfl, k2, z0, by rw [Nat.add_assoc]; exact z1, by rw [Nat.add_assoc]; exact z2, by rw [Nat.add_assoc]; exact z3, by rw [Nat.add_assoc]; exact z4, by rw [Nat.add_assoc]; exact z5⟩
  ·have : gsBulk ((List.range len).map fun i => (f i).1) = ((List.range len).map fun i => gtBulk (f i).1).sum := by
    unfold gsBulk; rw [List.map_map]; rfl
   omega
end
end
end Go.Proofs.YtepbbahdhhjibaaGreatDoor
