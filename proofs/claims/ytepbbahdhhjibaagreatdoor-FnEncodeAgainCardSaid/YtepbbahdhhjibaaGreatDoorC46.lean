/- own text -/
import Derived.Test.YtepbbahdhhjibaaGreatDoorC45
namespace Go.Proofs.YtepbbahdhhjibaaGreatDoor
set_option linter.unusedSimpArgs false
set_option linter.unusedVariables false
set_option maxHeartbeats 8000000
set_option maxRecDepth 100000
section
open Go.RowKit
theorem TokG.get {w : World} {A : Nat -> Prop} : ∀ {gs : List GT} {cs : List Value}, TokG w A gs cs -> ∀ (i : Nat) (h : i < gs.length), ∃ av, AttrG w A av gs[i].ats /\ cs[i * 6]? = some (.int .i64 gs[i].kind) /\ cs[i * 6 + 1]? = some (.string gs[i].sp) /\ cs[i * 6 + 2]? = some (.string gs[i].loc) /\ cs[i * 6 + 3]? = some av /\ cs[i * 6 + 4]? = some (.string gs[i].txt) /\ cs[i * 6 + 5]? = some (.int .i64 gs[i].pos) := by
 intro gs
 induction gs with
 | nil => intro cs _ i h; exact absurd h (Nat.not_lt_zero _)
 | cons g gs ih =>
  rintro cs ⟨av, rest, rfl, h2, h3⟩ i hi
  cases i with
  | zero => exact ⟨av, h2, rfl, rfl, rfl, rfl, rfl, rfl⟩
  | succ i =>
   obtain ⟨av', e0, e1, e2, e3, e4, e5, e6⟩ := ih h3 i (by simpa using hi)
   refine ⟨av', e0, ?_⟩
   rw [show (i + 1) * 6 = i * 6 + 6 by omega]
   have hg : ∀ k, (gtCells g av ++ rest)[i * 6 + 6 + k]? = rest[i * 6 + k]? := fun k => by
    rw [List.getElem?_append_right (by simp [gtCells]; omega)]
    congr 1
    simp [gtCells]; omega
   exact ⟨(hg 0).trans e1, (hg 1).trans e2, (hg 2).trans e3, (hg 3).trans e4, (hg 4).trans e5, (hg 5).trans e6⟩
theorem RowG.get {w : World} {lv : Value} {gs : List GT} (h : RowG w lv gs) (i : Nat) (hi : i < gs.length) : ∃ g cap pa ca, lv = .slice (some ⟨g, 0, none⟩) (gs.length : Nat) cap /\ gs.length <= cap /\ AttrG w (fun k => k ≠ g) (.slice pa (gs[i].ats.length : Nat) ca) gs[i].ats /\ w.cell? ⟨g, i * 6, none⟩ = some (.int .i64 gs[i].kind) /\ w.cell? ⟨g, i * 6 + 1, none⟩ = some (.string gs[i].sp) /\ w.cell? ⟨g, i * 6 + 2, none⟩ = some (.string gs[i].loc) /\ w.cell? ⟨g, i * 6 + 3, none⟩ = some (.slice pa (gs[i].ats.length : Nat) ca) /\ w.cell? ⟨g, i * 6 + 4, none⟩ = some (.string gs[i].txt) /\ w.cell? ⟨g, i * 6 + 5, none⟩ = some (.int .i64 gs[i].pos) := by
 obtain ⟨cs, h1, h2⟩ := h.ex
 obtain ⟨g, cap, hv, hle, hc⟩ := ownsRow_some h1 (by omega)
 obtain ⟨av, e0, e1, e2, e3, e4, e5, e6⟩ := h2.get i hi
 obtain ⟨pa, ca, hav⟩ := ownsRow_shape e0.row
 rw [hav] at e0 e4
 refine ⟨g, cap, pa, ca, hv, hle, ⟨e0.row, fun k hk e => e0.own k hk (by rw [hv, e]; rfl), e0.len⟩, hc _ _ e1, hc _ _ e2, hc _ _ e3, hc _ _ e4, hc _ _ e5, hc _ _ e6⟩
theorem RowG.shape {w : World} {lv : Value} {gs : List GT} (h : RowG w lv gs) : ∃ pa ca, lv = .slice pa (gs.length : Nat) ca := by
 obtain ⟨cs, h1, h2⟩ := h.ex
 exact ownsRow_shape h1
theorem AttrG.get {w : World} {A : Nat -> Prop} {pa : Option Addr} {ca : Nat} {ats : List (ByteArray × ByteArray × ByteArray)} (h : AttrG w A (.slice pa (ats.length : Nat) ca) ats) (i : Nat) (hi : i < ats.length) : ∃ g, pa = some ⟨g, 0, none⟩ /\ ats.length <= ca /\ w.cell? ⟨g, i * 3, none⟩ = some (.string ats[i].1) /\ w.cell? ⟨g, i * 3 + 1, none⟩ = some (.string ats[i].2.1) /\ w.cell? ⟨g, i * 3 + 2, none⟩ = some (.string ats[i].2.2) := by
 obtain ⟨g, cap, hv, hle, hc⟩ := ownsRow_some h.row (by omega)
 obtain ⟨x1, x2, x3⟩ := atsC_get ats i hi
 injection hv with hv1 _ hv3
 exact ⟨g, hv1, by omega, hc _ _ x1, hc _ _ x2, hc _ _ x3⟩
structure SpP (gs : List GT) (w : World) (e : Ending) (w' : World) : Prop where
 ex : ∃ b : Bool, e = .returned (.bool b) /\ Old w w' /\ (b = true -> ∀ g ∈ gs, PlG g)
theorem spaceless_do (w : World) (lv : Value) (gs : List GT) (h : RowG w lv gs) (hn : gs.length <= 300000) :
  Calls Tryz.prog 18 #[lv] w (SpP gs w) := by
 obtain ⟨pv, cv, rfl⟩ := h.shape
 obtain ⟨N, hN⟩ : ∃ N, N = gs.length := ⟨_, rfl⟩
 rw [<- hN] at hn ⊢
 replace h := zz h
 replace hN := zz hN
 go_enter Tryz.func18, Tryz.ntmps18
 go_wp2
 go_loopg [9] N (fun k u9 wr => ∃ i : Nat, u9 = .int .i64 i /\ i + k = N /\ Old w wr /\ ∀ (j : Nat) (g : GT), j < i -> gs[j]? = some g -> PlG g)
 case atStart => exact ⟨0, rfl, by omega, Fr.refl _ _, fun j g hj => absurd hj (Nat.not_lt_zero _)⟩
 case round =>
  obtain ⟨i, rfl, hik, ho, hpl⟩ := hrel
  obtain ⟨W1, rfl⟩ : ∃ W1, W1 = wr := ⟨_, rfl⟩
  by_cases hi : i < N
  ·obtain ⟨g, cap, pa, ca, hv, _, hA, e1, e2, e3, e4, e5, e6⟩ := (h.out.old ho).get i (by have := hN.out; omega)
   obtain rfl : pv = some ⟨g, 0, none⟩ := by injection hv
   have hgi : gs[i]? = some (gs[i]'(by have := hN.out; omega)) := List.getElem?_eq_getElem _
   generalize gs[i]'(by have := hN.out; omega) = T0 at *
   obtain ⟨kind, sp, loc, ats, txt, pos⟩ := T0
   dsimp only at hA e1 e2 e3 e4 e5 e6
   obtain ⟨M, hM⟩ : ∃ M, M = ats.length := ⟨_, rfl⟩
   rw [<- hM] at hA e4
   have hMl : M <= 1000000 := by rw [hM]; exact hA.len
   have hi2 : (i : Int) < (N : Int) := by omega
   have hAo : Old W1 (W1.alloc (.cells #[.int .i64 kind, .string sp, .string loc, .slice pa (M : Nat) ca, .string txt, .int .i64 pos] 28)) := (Fr.refl _ W1).alloc _
   replace hM := zz hM
   replace hA := zz hA
   replace ho := zz ho
   replace hAo := zz hAo
   replace hpl := zz hpl
   replace hik := zz hik
   replace hgi := zz hgi
   clear hv
   go_upto_region 4 with fail
   obtain ⟨R, hR⟩ : ∃ R, R = W1.heap.size := ⟨_, rfl⟩
   obtain ⟨W2, hW2⟩ : ∃ W2, W2 = W1.alloc (.cells #[.int .i64 kind, .string sp, .string loc, .slice pa (M : Nat) ca, .string txt, .int .i64 pos] 28) := ⟨_, rfl⟩
   have hb : Blk W2 R #[.int .i64 kind, .string sp, .string loc, .slice pa (M : Nat) ca, .string txt, .int .i64 pos] 28 := by rw [hW2, hR]; exact Blk.new W1 _ _
   rw [<- hW2] at hAo ⊢
   rw [<- hR]
   have y0 : W2.cell? ⟨R, 0, none⟩ = some (.int .i64 kind) := by rw [hb.cell]; rfl
   have y1 : W2.cell? ⟨R, 1, none⟩ = some (.string sp) := by rw [hb.cell]; rfl
   have y2 : W2.cell? ⟨R, 2, none⟩ = some (.string loc) := by rw [hb.cell]; rfl
   have y3 : W2.cell? ⟨R, 3, none⟩ = some (.slice pa (M : Nat) ca) := by rw [hb.cell]; rfl
   replace hW2 := zz hW2
   replace hR := zz hR
   clear hb e1 e2 e3 e4 e5 e6
   go_cut [30] from 13 to 30 (fun s30 wx => ∃ b : Bool, s30 = .bool b /\ wx = W2 /\ (b = false -> sp.size = 0 /\ kind ≠ 6 /\ (kind = 5 -> resF loc.data.toList = false)))
   case first =>
    by_cases hs : sp.size = 0
    ·have z1 := toList_nil hs
     have z2 := List.isEmpty_iff.1 z1
     replace hs := zz hs
     cases h6 : (kind == 6) with
     | true =>
      go_wp2_with fail
      go_meet
      case rel => exact ⟨_, rfl, rfl, fun h => by cases h⟩
     | false =>
      have h6n : kind ≠ 6 := by rw [beq_eq_false_iff_ne] at h6; exact h6
      replace h6n := zz h6n
      cases h5 : (kind == 5) with
      | false =>
       have h5n : kind ≠ 5 := by rw [beq_eq_false_iff_ne] at h5; exact h5
       replace h5n := zz h5n
       go_wp2_with fail
       go_meet
       case rel => exact ⟨_, rfl, rfl, fun _ => ⟨hs.out, h6n.out, fun e => absurd e h5n.out⟩⟩
      | true =>
       have hrs := reserved_do loc W2
       replace hrs := zz hrs
       obtain ⟨b, hb⟩ : ∃ b, b = resF loc.data.toList := ⟨_, rfl⟩
       rw [<- hb] at hrs
       replace hb := zz hb
       go_wp2_with (go_at_call 27; refine hrs.out.mono ?_; rintro e w' ⟨rfl, rfl⟩)
       go_meet
       case rel => exact ⟨_, rfl, rfl, fun h => ⟨hs.out, h6n.out, fun _ => by rw [<- hb.out]; simpa using h⟩⟩
    ·have z1 := toList_ne (Nat.pos_of_ne_zero hs)
     have z2 : ¬ sp.toList = [] := fun e => by rw [e] at z1; exact absurd z1 (by decide)
     replace hs := zz hs
     go_wp2_with fail
     go_meet
     case rel => exact ⟨_, rfl, rfl, fun h => by cases h⟩
   case rest =>
    obtain ⟨b, rfl, hw, hb⟩ := hcut
    rw [hw]; clear hw wc
    have hO2 : Old w W2 := ho.out.trans hAo.out (fun _ h => .inl h)
    replace hO2 := zz hO2
    cases b with
    | true =>
     clear hb
     go_wp2
     go_ret
     exact ⟨⟨false, rfl, hO2.out, fun h => by cases h⟩⟩
    | false =>
     replace hb := zz (hb rfl)
     go_wp2
     obtain ⟨ko, rfl⟩ : ∃ ko, ko = gk := ⟨_, rfl⟩
     go_loopg [34] M (fun k u34 wr => ∃ j : Nat, u34 = .int .i64 j /\ j + k = M /\ Old W2 wr /\ ∀ (m : Nat) (x : ByteArray × ByteArray × ByteArray), m < j -> ats[m]? = some x -> x.1.size = 0 /\ (x.2.1.toList == xmlnsL) = false)
     case atStart => exact ⟨0, rfl, by omega, Fr.refl _ _, fun m x hm => absurd hm (Nat.not_lt_zero _)⟩
     case round =>
      obtain ⟨j, rfl, hjk, hO3, hx⟩ := hrel
      obtain ⟨W3, rfl⟩ : ∃ W3, W3 = wr := ⟨_, rfl⟩
      by_cases hj : j < M
      ·have hA3 := hA.out.keep (hAo.out.trans hO3 (fun _ h => .inl h)) (B := fun k => True) (fun k _ _ => ⟨fun h => h, trivial⟩)
       rw [hM.out] at hA3
       obtain ⟨ga, rfl, _, q0, q1, q2⟩ := hA3.get j (by have := hM.out; omega)
       have hgj : ats[j]? = some (ats[j]'(by have := hM.out; omega)) := List.getElem?_eq_getElem _
       generalize ats[j]'(by have := hM.out; omega) = aj at q0 q1 q2 hgj
       obtain ⟨sj, lj, vj⟩ := aj
       dsimp only at q0 q1 q2
       have hj2 : (j : Int) < (M : Int) := by omega
       have hO4 : Old W3 (W3.alloc (.cells #[.string sj, .string lj, .string vj] 30)) := (Fr.refl _ W3).alloc _
       have hI : IntKind.i64.wrap ((j : Int) + 1) = ((j + 1 : Nat) : Int) := by rw [IntWalk.i64_in _ (by omega)]; omega
       replace hI := zz hI
       replace hO3 := zz hO3
       replace hO4 := zz hO4
       replace hjk := zz hjk
       replace hgj := zz hgj
       replace hx := zz hx
       clear hA3
       go_upto_region 9 with fail
       obtain ⟨W4, hW4⟩ : ∃ W4, W4 = W3.alloc (.cells #[.string sj, .string lj, .string vj] 30) := ⟨_, rfl⟩
       have hb4 : Blk W4 W3.heap.size #[.string sj, .string lj, .string vj] 30 := by rw [hW4]; exact Blk.new W3 _ _
       rw [<- hW4] at hO4 ⊢
       generalize W3.heap.size = R3 at *
       have y4 : W4.cell? ⟨R3, 0, none⟩ = some (.string sj) := by rw [hb4.cell]; rfl
       have y5 : W4.cell? ⟨R3, 1, none⟩ = some (.string lj) := by rw [hb4.cell]; rfl
       replace hW4 := zz hW4
       clear hb4 q0 q1 q2
       go_cut [45] from 38 to 45 (fun s45 wx => ∃ b : Bool, s45 = .bool b /\ wx = W4 /\ (b = false -> sj.size = 0 /\ (lj.toList == xmlnsL) = false))
       case first =>
        by_cases hs : sj.size = 0
        ·have z1 := toList_nil hs
         have z2 := List.isEmpty_iff.1 z1
         replace hs := zz hs
         cases hlx : (lj.toList == [120, 109, 108, 110, 115]) with
         | true =>
          go_wp2_with fail
          go_meet
          case rel => exact ⟨_, rfl, rfl, fun h => by cases h⟩
         | false =>
          go_wp2_with fail
          go_meet
          case rel => exact ⟨_, rfl, rfl, fun _ => ⟨hs.out, hlx⟩⟩
        ·have z1 := toList_ne (Nat.pos_of_ne_zero hs)
         have z2 : ¬ sj.toList = [] := fun e => by rw [e] at z1; exact absurd z1 (by decide)
         replace hs := zz hs
         go_wp2_with fail
         go_meet
         case rel => exact ⟨_, rfl, rfl, fun h => by cases h⟩
       case rest =>
        obtain ⟨b, rfl, hw, hbj⟩ := hcut
        rw [hw]; clear hw wc
        have hO5 : Old W2 W4 := hO3.out.trans hO4.out (fun _ h => .inl h)
        replace hO5 := zz hO5
        cases b with
        | true =>
         clear hbj
         go_wp2
         go_ret
         exact ⟨⟨false, rfl, hO2.out.trans hO5.out (fun _ h => .inl h), fun h => by cases h⟩⟩
        | false =>
         replace hbj := zz (hbj rfl)
         go_wp2
         go_roundg (gk - 1)
         case measure => have := hjk.out; omega
         case rel =>
          refine ⟨j + 1, rfl, by have := hjk.out; omega, hO5.out, fun m x hm hxm => ?_⟩
          by_cases hmj : m = j
          ·subst hmj
           obtain rfl := Option.some.inj (hxm.symm.trans hgj.out)
           exact hbj.out
          ·exact hx.out m x (by omega) hxm
      ·have hj2 : ¬ (j : Int) < (M : Int) := by omega
       have hO6 : Old w W3 := hO2.out.trans hO3 (fun _ h => .inl h)
       have hP : PlG ⟨kind, sp, loc, ats, txt, pos⟩ := by
        refine ⟨hb.out.1, hb.out.2.1, hb.out.2.2, fun x hxm => ?_⟩
        obtain ⟨m, hm, rfl⟩ := List.getElem_of_mem hxm
        have hm' : m < ats.length := hm
        exact hx m _ (by have := hM.out; omega) (List.getElem?_eq_getElem hm)
       have hI : IntKind.i64.wrap ((i : Int) + 1) = ((i + 1 : Nat) : Int) := by rw [IntWalk.i64_in _ (by omega)]; omega
       replace hI := zz hI
       replace hO6 := zz hO6
       replace hP := zz hP
       clear hO3 hx hjk
       go_wp2
       go_roundg (ko - 1)
       case measure => have := hik.out; omega
       case rel =>
        refine ⟨i + 1, rfl, by have := hik.out; omega, hO6.out, fun m x hm hxm => ?_⟩
        by_cases hmi : m = i
        ·subst hmi
         obtain rfl := Option.some.inj (hxm.symm.trans hgi.out)
         exact hP.out
        ·exact hpl.out m x (by omega) hxm
  ·have hi2 : ¬ (i : Int) < (N : Int) := by omega
   replace ho := zz ho
   replace hpl := zz hpl
   replace hik := zz hik
   go_wp2
   go_ret
   refine ⟨⟨true, rfl, ho.out, fun _ x hx => ?_⟩⟩
   obtain ⟨m, hm, rfl⟩ := List.getElem_of_mem hx
   exact hpl.out m _ (by have := hN.out; omega) (List.getElem?_eq_getElem hm)
end
section
open Go.RowKit
theorem alike_do (w : World) (kind : Int) (sp loc txt : ByteArray) (ats : List (ByteArray × ByteArray × ByteArray)) (A B : Nat -> Prop) (pa pb : Option Addr) (ca cb : Nat) (p1 p2 : Int) (hA : AttrG w A (.slice pa (ats.length : Nat) ca) ats) (hB : AttrG w B (.slice pb (ats.length : Nat) cb) ats) :
  Calls Tryz.prog 41 #[.agg #[.int .i64 kind, .string sp, .string loc, .slice pa (ats.length : Nat) ca, .string txt, .int .i64 p1], .agg #[.int .i64 kind, .string sp, .string loc, .slice pb (ats.length : Nat) cb, .string txt, .int .i64 p2]] w fun e w' => e = .returned (.bool true) /\ Hid (Old w w') := by
 obtain ⟨M, hM⟩ : ∃ M, M = ats.length := ⟨_, rfl⟩
 have hMl : M <= 1000000 := by rw [hM]; exact hA.len
 rw [<- hM] at hA hB ⊢
 obtain ⟨R, hR⟩ : ∃ R, R = w.heap.size := ⟨_, rfl⟩
 obtain ⟨W1, hW1⟩ : ∃ W1, W1 = w.alloc (.cells #[.int .i64 kind, .string sp, .string loc, .slice pa (M : Nat) ca, .string txt, .int .i64 p1] 28) := ⟨_, rfl⟩
 obtain ⟨W2, hW2⟩ : ∃ W2, W2 = W1.alloc (.cells #[.int .i64 kind, .string sp, .string loc, .slice pb (M : Nat) cb, .string txt, .int .i64 p2] 28) := ⟨_, rfl⟩
 have hR1 : W1.heap.size = R + 1 := by rw [hW1, hR]; simp
 have hb1 : Blk W1 R #[.int .i64 kind, .string sp, .string loc, .slice pa (M : Nat) ca, .string txt, .int .i64 p1] 28 := by rw [hW1, hR]; exact Blk.new w _ _
 have hb2 : Blk W2 (R + 1) #[.int .i64 kind, .string sp, .string loc, .slice pb (M : Nat) cb, .string txt, .int .i64 p2] 28 := by rw [hW2, <- hR1]; exact Blk.new W1 _ _
 have hO1 : Old w W1 := by rw [hW1]; exact (Fr.refl _ w).alloc _
 have hO12 : Old W1 W2 := by rw [hW2]; exact (Fr.refl _ W1).alloc _
 have hO2 : Old w W2 := hO1.trans hO12 (fun _ h => .inl h)
 have hb1' := hb1.keep hO12 (fun h => h)
 have y0 : W2.cell? ⟨R, 0, none⟩ = some (.int .i64 kind) := by rw [hb1'.cell]; rfl
 have y1 : W2.cell? ⟨R, 1, none⟩ = some (.string sp) := by rw [hb1'.cell]; rfl
 have y2 : W2.cell? ⟨R, 2, none⟩ = some (.string loc) := by rw [hb1'.cell]; rfl
 have y3 : W2.cell? ⟨R, 3, none⟩ = some (.slice pa (M : Nat) ca) := by rw [hb1'.cell]; rfl
 have y4 : W2.cell? ⟨R, 4, none⟩ = some (.string txt) := by rw [hb1'.cell]; rfl
 have z0 : W2.cell? ⟨R + 1, 0, none⟩ = some (.int .i64 kind) := by rw [hb2.cell]; rfl
 have z1 : W2.cell? ⟨R + 1, 1, none⟩ = some (.string sp) := by rw [hb2.cell]; rfl
 have z2 : W2.cell? ⟨R + 1, 2, none⟩ = some (.string loc) := by rw [hb2.cell]; rfl
 have z3 : W2.cell? ⟨R + 1, 3, none⟩ = some (.slice pb (M : Nat) cb) := by rw [hb2.cell]; rfl
 have z4 : W2.cell? ⟨R + 1, 4, none⟩ = some (.string txt) := by rw [hb2.cell]; rfl
 replace hM := zz hM
 replace hA := zz hA
 replace hB := zz hB
 replace hO2 := zz hO2
 replace hb1' := zz hb1'
 replace hb2 := zz hb2
 clear hO1 hO12 hb1
 go_enter Tryz.func41, Tryz.ntmps41
 go_upto_region 1 with fail
 rw [<- hW1, <- hR, <- hW2]
 replace hW1 := zz hW1
 replace hW2 := zz hW2
 replace hR := zz hR
 replace hR1 := zz hR1
 go_wp2
 go_loopg [44] M (fun k u44 wr => ∃ j : Nat, u44 = .int .i64 j /\ j + k = M /\ Old W2 wr)
 case atStart => exact ⟨0, rfl, by omega, Fr.refl _ _⟩
 case round =>
  obtain ⟨j, rfl, hjk, hO3⟩ := hrel
  obtain ⟨W3, rfl⟩ : ∃ W3, W3 = wr := ⟨_, rfl⟩
  by_cases hj : j < M
  ·have hO23 := hO2.out.trans hO3 (fun _ h => .inl h)
   have hA3 := hA.out.keep hO23 (B := fun k => True) (fun k _ _ => ⟨fun h => h, trivial⟩)
   have hB3 := hB.out.keep hO23 (B := fun k => True) (fun k _ _ => ⟨fun h => h, trivial⟩)
   rw [hM.out] at hA3 hB3
   obtain ⟨ga, rfl, _, q0, q1, q2⟩ := hA3.get j (by have := hM.out; omega)
   obtain ⟨gb, rfl, _, r0, r1, r2⟩ := hB3.get j (by have := hM.out; omega)
   generalize ats[j]'(by have := hM.out; omega) = aj at q0 q1 q2 r0 r1 r2
   obtain ⟨sj, lj, vj⟩ := aj
   dsimp only at q0 q1 q2 r0 r1 r2
   have x3 : W3.cell? ⟨R, 3, none⟩ = some (.slice (some ⟨ga, 0, none⟩) (M : Nat) ca) := by rw [(hb1'.out.keep hO3 (fun h => h)).cell]; rfl
   have x4 : W3.cell? ⟨R + 1, 3, none⟩ = some (.slice (some ⟨gb, 0, none⟩) (M : Nat) cb) := by rw [(hb2.out.keep hO3 (fun h => h)).cell]; rfl
   have hj2 : (j : Int) < (M : Int) := by omega
   have hI : IntKind.i64.wrap ((j : Int) + 1) = ((j + 1 : Nat) : Int) := by rw [IntWalk.i64_in _ (by omega)]; omega
   have hO3n := fun n => hO3.drewN n
   replace hI := zz hI
   replace hO3n := zz hO3n
   replace hjk := zz hjk
   clear hA3 hB3 hO23 hO3 y0 y1 y2 y3 y4 z0 z1 z2 z3 z4
   go_wp2
   go_quiet (fail)
   go_wp2
   go_roundg (gk - 1)
   case measure => have := hjk.out; omega
   case rel => exact ⟨j + 1, rfl, by have := hjk.out; omega, hO3n.out _⟩
  ·have hj2 : ¬ (j : Int) < (M : Int) := by omega
   have hO23 := zz (hO2.out.trans hO3 (fun _ h => .inl h))
   clear hO3 hjk
   go_wp2
   go_ret
   exact ⟨rfl, hO23⟩
end
end Go.Proofs.YtepbbahdhhjibaaGreatDoor
