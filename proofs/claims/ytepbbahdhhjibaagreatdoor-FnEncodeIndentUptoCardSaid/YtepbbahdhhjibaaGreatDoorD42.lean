/- own text -/
import Derived.Test.YtepbbahdhhjibaaGreatDoorD39
namespace Go.Proofs.YtepbbahdhhjibaaGreatDoor
set_option linter.unusedSimpArgs false
set_option linter.unusedVariables false
set_option maxHeartbeats 8000000
set_option maxRecDepth 100000
open Go.RowKit
theorem emp_size {x : ByteArray} (h : x.toList = []) : x = ⟨#[]⟩ := by
 apply bytes_eq
 rw [<- Go.ByteArray.toList_eq, h]
theorem isE_f {x : ByteArray} (h : ¬ x.toList = []) : x.toList.isEmpty = false := by rw [List.isEmpty_eq_false_iff]; exact h
theorem neat_do (w : World) (kind pos : Int) (sp loc txt : ByteArray) (pa : Option Addr) (na ca : Nat) : Calls Tryz.prog 20 #[.agg #[.int .i64 kind, .string sp, .string loc, .slice pa (na : Nat) ca, .string txt, .int .i64 pos]] w fun e w' => ∃ r : Bool, e = .returned (.bool r) /\ Hid (Old w w' /\ (r = true -> (kind = 1 -> txt = ⟨#[]⟩) /\ (kind = 2 -> txt = ⟨#[]⟩ /\ na = 0))) := by
 obtain ⟨W1, hW1⟩ : ∃ W1, W1 = w.alloc (.cells #[.int .i64 kind, .string sp, .string loc, .slice pa na ca, .string txt, .int .i64 pos] 28) := ⟨_, rfl⟩
 have hO1 : Old w W1 := by rw [hW1]; exact (Fr.refl _ w).alloc _
 have hb1 : Blk W1 w.heap.size #[.int .i64 kind, .string sp, .string loc, .slice pa na ca, .string txt, .int .i64 pos] 28 := by rw [hW1]; exact Blk.new w _ _
 generalize hR : w.heap.size = Rr at *
 have y0 : W1.cell? ⟨Rr, 0, none⟩ = some (.int .i64 kind) := by rw [hb1.cell]; rfl
 have y1 : W1.cell? ⟨Rr, 1, none⟩ = some (.string sp) := by rw [hb1.cell]; rfl
 have y2 : W1.cell? ⟨Rr, 2, none⟩ = some (.string loc) := by rw [hb1.cell]; rfl
 have y3 : W1.cell? ⟨Rr, 3, none⟩ = some (.slice pa na ca) := by rw [hb1.cell]; rfl
 have y4 : W1.cell? ⟨Rr, 4, none⟩ = some (.string txt) := by rw [hb1.cell]; rfl
 have ht : txt.toList = [] \/ ¬ txt.toList = [] := Classical.em _
 have hs : sp.toList = [] \/ ¬ sp.toList = [] := Classical.em _
 have hl : loc.toList = [] \/ ¬ loc.toList = [] := Classical.em _
 have hn : na = 0 \/ ¬ na = 0 := Classical.em _
 replace hO1 := zz hO1
 clear hb1
 have h1c : kind = 1 \/ kind = 2 \/ (((kind == 1) = false) /\ ((kind == 2) = false) /\ kind ≠ 1 /\ kind ≠ 2) := by
  by_cases h1 : kind = 1
  ·exact .inl h1
  by_cases h2 : kind = 2
  ·exact .inr (.inl h2)
  exact .inr (.inr ⟨beq_eq_false_iff_ne.2 h1, beq_eq_false_iff_ne.2 h2, h1, h2⟩)
 rcases h1c with rfl | rfl | ⟨x1, x2, x3, x4⟩
 ·rcases ht with ht | ht
  ·have ht' := emp_size ht
   replace ht' := zz ht'
   clear hs hl hn
   go_enter Tryz.func20, Tryz.ntmps20
   go_upto_region 1 with fail
   rw [<- hW1]
   replace hW1 := zz hW1
   replace hR := zz hR
   go_wp2
   all_goals (
    go_ret
    exact ⟨_, rfl, hO1.out, fun _ => ⟨fun _ => ht'.out, fun h => by cases h⟩⟩)
  ·have hte := isE_f ht
   clear hs hl hn
   go_enter Tryz.func20, Tryz.ntmps20
   go_upto_region 1 with fail
   rw [<- hW1]
   replace hW1 := zz hW1
   replace hR := zz hR
   go_wp2
   all_goals (
    go_ret
    exact ⟨false, rfl, hO1.out, fun h => by cases h⟩)
 ·rcases ht with ht | ht
  ·rcases hn with rfl | hn
   ·have ht' := emp_size ht
    replace ht' := zz ht'
    clear hs hl
    go_enter Tryz.func20, Tryz.ntmps20
    go_upto_region 1 with fail
    rw [<- hW1]
    replace hW1 := zz hW1
    replace hR := zz hR
    go_wp2
    all_goals (
     go_ret
     exact ⟨_, rfl, hO1.out, fun _ => ⟨fun h => absurd h (by decide), fun _ => ⟨ht'.out, by first | rfl | trivial⟩⟩⟩)
   ·have hn' : ((na : Int) == 0) = false := by rw [beq_eq_false_iff_ne]; omega
    clear hs hl
    go_enter Tryz.func20, Tryz.ntmps20
    go_upto_region 1 with fail
    rw [<- hW1]
    replace hW1 := zz hW1
    replace hR := zz hR
    go_wp2
    all_goals (
     go_ret
     exact ⟨false, rfl, hO1.out, fun h => by cases h⟩)
  ·have hte := isE_f ht
   clear hs hl hn
   go_enter Tryz.func20, Tryz.ntmps20
   go_upto_region 1 with fail
   rw [<- hW1]
   replace hW1 := zz hW1
   replace hR := zz hR
   go_wp2
   all_goals (
    go_ret
    exact ⟨false, rfl, hO1.out, fun h => by cases h⟩)
 ·replace x3 := zz x3
  replace x4 := zz x4
  clear ht hs hl hn
  go_enter Tryz.func20, Tryz.ntmps20
  go_upto_region 1 with fail
  rw [<- hW1]
  replace hW1 := zz hW1
  replace hR := zz hR
  go_wp2
  all_goals (
   go_ret
   exact ⟨_, rfl, hO1.out, fun _ => ⟨fun h => absurd h x3.out, fun h => absurd h x4.out⟩⟩)
theorem named_do (w : World) (sp loc : ByteArray) (hl : loc.size <= 549755813888) : Calls Tryz.prog 21 #[.string sp, .string loc, .bool false, .bool false] w fun e w' => ∃ r : Bool, e = .returned (.bool r) /\ Hid (Old w w' /\ (r = true -> sp = ⟨#[]⟩ /\ ∃ nm, NameOk nm /\ loc = nameB nm /\ (nb nm == [120, 109, 108, 110, 115]) = false)) := by
 have hin := (isNameS_do loc w hl).mono (R' := fun e w' => ∃ b : Bool, e = .returned (.bool b) /\ Hid (Old w w' /\ (b = true -> ∃ nm, NameOk nm /\ loc.data.toList = nb nm))) (fun e w' x => by obtain ⟨b, h1, h2, h3⟩ := x; exact ⟨b, h1, h2.old, h3⟩)
 have hs : sp.toList = [] \/ ¬ sp.toList = [] := Classical.em _
 replace hin := zz hin
 rcases hs with hs | hs
 ·have hs' := emp_size hs
  replace hs' := zz hs'
  cases hx : (loc.toList == [120, 109, 108, 110, 115])
  ·have hx' := zz hx
   go_enter Tryz.func21, Tryz.ntmps21
   go_wp2_with (go_at_call 26; refine hin.out.mono ?_; rintro e w2 ⟨_ | _, rfl, k2⟩)
   all_goals go_ret
   all_goals first
    | exact ⟨false, rfl, k2.out.1, fun h => by cases h⟩
    | (refine ⟨true, rfl, k2.out.1, fun _ => ⟨hs'.out, ?_⟩⟩
       obtain ⟨nm, n1, n2⟩ := k2.out.2 (by first | rfl | trivial)
       refine ⟨nm, n1, bytes_eq n2, ?_⟩
       have := hx'.out
       rw [Go.ByteArray.toList_eq, n2] at this
       exact this)
  ·go_enter Tryz.func21, Tryz.ntmps21
   go_wp2_with (go_at_call 26; refine hin.out.mono ?_; rintro e w2 ⟨_ | _, rfl, k2⟩)
   all_goals go_ret
   all_goals exact ⟨false, rfl, k2.out.1, fun h => by cases h⟩
 ·have hse := isE_f hs
  cases hx : (loc.toList == [120, 109, 108, 110, 115])
  all_goals (
   go_enter Tryz.func21, Tryz.ntmps21
   go_wp2_with (go_at_call 26; refine hin.out.mono ?_; rintro e w2 ⟨_ | _, rfl, k2⟩)
   all_goals go_ret
   all_goals exact ⟨false, rfl, k2.out.1, fun h => by cases h⟩)
def AtsOk (ats : List (ByteArray × ByteArray × ByteArray)) (kv : List (List Nat × List Nat)) : Prop := ats = kvA kv /\ (∀ x ∈ kv, NameOk x.1 /\ (nb x.1 == [120, 109, 108, 110, 115]) = false /\ ∀ r ∈ x.2, isCh r = true) /\ ndKv kv
theorem ndKv_snoc {kv : List (List Nat × List Nat)} {nm rs : List Nat} (h : ndKv kv) (hn : ∀ (j : Nat) (hj : j < kv.length), nameB nm ≠ nameB kv[j].1) : ndKv (kv ++ [(nm, rs)]) := by
 intro i j hi hj
 rw [List.length_append] at hi
 simp only [List.length_cons, List.length_nil] at hi
 by_cases hil : i < kv.length
 ·rw [List.getElem_append_left hil, List.getElem_append_left (by omega)]
  exact h i j hil hj
 ·have hie : i = kv.length := by omega
  subst hie
  rw [List.getElem_append_right (Nat.le_refl _), List.getElem_append_left hj]
  simp only [Nat.sub_self, List.getElem_cons_zero]
  exact hn j hj
theorem AtsOk.snoc {ats : List (ByteArray × ByteArray × ByteArray)} {kv : List (List Nat × List Nat)} (h : AtsOk ats kv) {sp lo vl : ByteArray} {nm rs : List Nat} (h1 : sp = ⟨#[]⟩) (h2 : NameOk nm) (h3 : lo = nameB nm) (h4 : (nb nm == [120, 109, 108, 110, 115]) = false) (h5 : vl.data.toList = nb rs) (h6 : ∀ r ∈ rs, isCh r = true) (h7 : ∀ (j : Nat) (x : ByteArray × ByteArray × ByteArray), ats[j]? = some x -> lo ≠ x.2.1) : AtsOk (ats ++ [(sp, lo, vl)]) (kv ++ [(nm, rs)]) := by
 obtain ⟨e1, e2, e3⟩ := h
 refine ⟨?_, fun x hx => ?_, ndKv_snoc e3 fun j hj => ?_⟩
 ·have e : vl = nameB rs := bytes_eq h5
  rw [e1, h1, h3, e]
  simp [kvA]
 ·rcases List.mem_append.1 hx with hx | hx
  ·exact e2 x hx
  ·obtain rfl : x = (nm, rs) := by simpa using hx
   exact ⟨h2, h4, h6⟩
 ·have hj' : ats[j]? = some (⟨#[]⟩, nameB kv[j].1, nameB kv[j].2) := by
   rw [e1]
   unfold kvA
   rw [List.getElem?_map, List.getElem?_eq_getElem hj]; rfl
  rw [<- h3]
  exact h7 j _ hj'
theorem attributes_do (w : World) (pa : Option Addr) (na ca : Nat) (ats : List (ByteArray × ByteArray × ByteArray)) (h : AtL w (.slice pa na ca) ats) (hna : na = ats.length) (hca : na <= ca) (hnl : na <= 549755813888) (hsz : ∀ x ∈ ats, x.2.1.size <= 549755813888) : Calls Tryz.prog 22 #[.slice pa na ca, .bool false] w fun e w' => ∃ r : Bool, e = .returned (.bool r) /\ Hid (Old w w' /\ (r = true -> ∃ kv, AtsOk ats kv)) := by
 replace h := zz h
 replace hna := zz hna
 replace hsz := zz hsz
 go_enter Tryz.func22, Tryz.ntmps22
 go_wp2
 go_loopg [11] na (fun k u11 wr => ∃ i : Nat, u11 = .int .i64 i /\ i + k = na /\ Old w wr /\ ∃ kv, AtsOk (ats.take i) kv)
 case atStart => exact ⟨0, rfl, by omega, Fr.refl _ w, [], rfl, fun x hx => (by cases hx), fun i j hi => by cases hi⟩
 case round =>
  obtain ⟨i, rfl, hik, hO, hkv⟩ := hrel
  by_cases hi : i < na
  ·have hil : i < ats.length := by rw [<- hna.out]; exact hi
   obtain ⟨g, o, rfl, e1, e2, e3⟩ := (h.out.old hO).get i hil
   have htk : ats.take (i + 1) = ats.take i ++ [ats[i]] := List.take_succ_eq_append_getElem hil
   have hszi := hsz.out _ (List.getElem_mem hil)
   generalize ats[i]'hil = x at e1 e2 e3 htk hszi
   obtain ⟨sp, lo, vl⟩ := x
   dsimp only at e1 e2 e3 hszi
   have hi2 : (i : Int) < (na : Int) := by omega
   have hi3 : (i : Int) <= (na : Int) := by omega
   have hi4 : (0 : Int) <= (i : Int) := by omega
   have hi5 : (i : Int) <= (ca : Int) := by omega
   have hI : IntKind.i64.wrap ((i : Int) + 1) = ((i + 1 : Nat) : Int) := by rw [IntWalk.i64_in _ (by omega)]; omega
   obtain ⟨W1, hW1⟩ : ∃ W1, W1 = wr.alloc (.cells #[.string sp, .string lo, .string vl] 30) := ⟨_, rfl⟩
   have hO1 : Old w W1 := by rw [hW1]; exact hO.alloc _
   have hb1 : Blk W1 wr.heap.size #[.string sp, .string lo, .string vl] 30 := by rw [hW1]; exact Blk.new wr _ _
   generalize hR : wr.heap.size = Rr at *
   have hyy : ∀ w2, Old W1 w2 -> w2.cell? ⟨Rr, 0, none⟩ = some (.string sp) /\ w2.cell? ⟨Rr, 1, none⟩ = some (.string lo) /\ w2.cell? ⟨Rr, 2, none⟩ = some (.string vl) := fun w2 f => by
    have hb := hb1.keep f (fun h => h)
    exact ⟨by rw [hb.cell]; rfl, by rw [hb.cell]; rfl, by rw [hb.cell]; rfl⟩
   have hnd := (named_do W1 sp lo hszi).mono (R' := fun e w' => ∃ r : Bool, e = .returned (.bool r) /\ (w'.cell? ⟨Rr, 0, none⟩ = some (.string sp) /\ w'.cell? ⟨Rr, 1, none⟩ = some (.string lo) /\ w'.cell? ⟨Rr, 2, none⟩ = some (.string vl)) /\ Hid (Old W1 w' /\ (r = true -> sp = ⟨#[]⟩ /\ ∃ nm, NameOk nm /\ lo = nameB nm /\ (nb nm == [120, 109, 108, 110, 115]) = false))) (fun e w' x => by obtain ⟨r, h1, h2⟩ := x; exact ⟨r, h1, hyy _ h2.out.1, h2⟩)
   have hch : ∀ w2, Old W1 w2 -> Calls Tryz.prog 23 #[.string vl] w2 fun e w' => ∃ r : Bool, e = .returned (.bool r) /\ (w'.cell? ⟨Rr, 0, none⟩ = some (.string sp) /\ w'.cell? ⟨Rr, 1, none⟩ = some (.string lo) /\ w'.cell? ⟨Rr, 2, none⟩ = some (.string vl)) /\ Hid (Old W1 w' /\ (r = true -> ChS vl.data.toList)) := fun w2 f => by
    refine (chars_do vl w2).mono ?_
    rintro e w' ⟨b, rfl, k1, k2, _⟩
    have f' := f.old k1.old
    exact ⟨b, rfl, hyy _ f', f', k2⟩
   obtain ⟨y0, y1, y2⟩ := hyy W1 (Fr.refl _ _)
   replace hnd := zz hnd
   replace hch := zz hch
   replace hyy := zz hyy
   replace hik := zz hik
   replace hO1 := zz hO1
   replace hkv := zz hkv
   replace htk := zz htk
   have hOr := zz hO
   clear hb1 hO hszi
   go_upto_region 4 with fail
   rw [<- hW1]
   replace hW1 := zz hW1
   replace hR := zz hR
   clear e1 e2 e3
   go_upto_region 6 with (first
    | (go_at_call 21; refine hnd.out.mono ?_; rintro e w2 ⟨_ | _, rfl, ⟨x0, x1, x2⟩, k2⟩)
    | (go_at_call 23; refine (hch.out _ k2.out.1).mono ?_; rintro e w3 ⟨_ | _, rfl, ⟨x3, x4, x5⟩, k3⟩))
   ·go_wp2
    go_ret
    exact ⟨false, rfl, hO1.out.old k2.out.1, fun h => by cases h⟩
   ·go_wp2
    go_ret
    exact ⟨false, rfl, hO1.out.old k3.out.1, fun h => by cases h⟩
   ·obtain ⟨hsp0, nm, n1, n2, n3⟩ := k2.out.2 (by first | rfl | trivial)
    subst hsp0
    obtain ⟨rs, r1, r2⟩ := k3.out.2 (by first | rfl | trivial)
    obtain ⟨kv, hk⟩ := hkv.out
    have hO3 : Old w w3 := hO1.out.old k3.out.1
    have hfirst : ∀ (j : Nat) (x : ByteArray × ByteArray × ByteArray), j < i -> ats[j]? = some x -> x.1 = ⟨#[]⟩ := fun j x hj hx => by
     have e1 : (ats.take i)[j]? = some x := by rw [List.getElem?_take_of_lt hj]; exact hx
     rw [hk.1] at e1
     unfold kvA at e1
     rw [List.getElem?_map] at e1
     obtain ⟨y, _, rfl⟩ := Option.map_eq_some_iff.1 e1
     rfl
    have hnext : (∀ (j : Nat) (x : ByteArray × ByteArray × ByteArray), j < i -> ats[j]? = some x -> lo ≠ x.2.1) -> ∃ kv, AtsOk (ats.take (i + 1)) kv := fun hd => by
     refine ⟨kv ++ [(nm, rs)], ?_⟩
     rw [htk.out]
     refine hk.snoc rfl n1 n2 n3 r1 r2 (fun j x hx => ?_)
     have hj : j < i := by
      have := (List.getElem?_eq_some_iff.1 hx).1
      rw [List.length_take] at this
      omega
     rw [List.getElem?_take_of_lt hj] at hx
     exact hd j x hj hx
    have hyy3 : ∀ w2, Old w3 w2 -> w2.cell? ⟨Rr, 0, none⟩ = some (.string ⟨#[]⟩) /\ w2.cell? ⟨Rr, 1, none⟩ = some (.string lo) /\ w2.cell? ⟨Rr, 2, none⟩ = some (.string vl) := fun w2 f => hyy.out w2 (k3.out.1.old f)
    replace hfirst := zz hfirst
    replace hnext := zz hnext
    replace hyy3 := zz hyy3
    replace hO3 := zz hO3
    clear n1 n2 n3 r1 r2 hk y0 y1 y2 x0 x1 x2 x3 x4 x5 k2 k3
    obtain ⟨ko, rfl⟩ : ∃ ko, ko = gk := ⟨_, rfl⟩
    go_wp2
    go_loopg [33] i (fun k u33 wr => ∃ j : Nat, u33 = .int .i64 j /\ j + k = i /\ Old w3 wr /\ ∀ (j' : Nat) (x : ByteArray × ByteArray × ByteArray), j' < j -> ats[j']? = some x -> lo ≠ x.2.1)
    case atStart => exact ⟨0, rfl, by omega, Fr.refl _ _, fun j x hj => absurd hj (Nat.not_lt_zero _)⟩
    case round =>
     obtain ⟨j, rfl, hjk, hO4, hdis⟩ := hrel
     obtain ⟨W4, rfl⟩ : ∃ W4, W4 = wr := ⟨_, rfl⟩
     by_cases hj : j < i
     ·have hjl : j < ats.length := by omega
      obtain ⟨g', o', hgo, q1, q2, q3⟩ := (h.out.old (hO3.out.old hO4)).get j hjl
      injection hgo with hgo
      injection hgo with hg1 hg2 _
      subst hg1 hg2
      have hxj : ats[j]? = some (ats[j]'hjl) := List.getElem?_eq_getElem hjl
      have hx1 := hfirst.out j _ hj hxj
      generalize ats[j]'hjl = xj at *
      obtain ⟨sj, lj, vj⟩ := xj
      dsimp only at q1 q2 q3 hx1
      subst hx1
      have hj2 : (j : Int) < (i : Int) := by omega
      have hJ : IntKind.i64.wrap ((j : Int) + 1) = ((j + 1 : Nat) : Int) := by rw [IntWalk.i64_in _ (by omega)]; omega
      obtain ⟨W5, hW5⟩ : ∃ W5, W5 = W4.alloc (.cells #[.string ⟨#[]⟩, .string lj, .string vj] 30) := ⟨_, rfl⟩
      have hO5 : Old w3 W5 := by rw [hW5]; exact hO4.alloc _
      have hb5 : Blk W5 W4.heap.size #[.string ⟨#[]⟩, .string lj, .string vj] 30 := by rw [hW5]; exact Blk.new W4 _ _
      obtain ⟨y0, y1, y2⟩ := hyy3.out W5 hO5
      generalize hR5 : W4.heap.size = R5 at *
      have b0 : W5.cell? ⟨R5, 0, none⟩ = some (.string ⟨#[]⟩) := by rw [hb5.cell]; rfl
      have b1 : W5.cell? ⟨R5, 1, none⟩ = some (.string lj) := by rw [hb5.cell]; rfl
      have hdn : lo ≠ lj -> ∀ (j' : Nat) (x : ByteArray × ByteArray × ByteArray), j' < j + 1 -> ats[j']? = some x -> lo ≠ x.2.1 := fun hne j' x hj' hx => by
       by_cases he : j' = j
       ·subst he
        rw [hxj] at hx
        rw [<- Option.some.inj hx]; exact hne
       ·exact hdis j' x (by omega) hx
      replace hdn := zz hdn
      replace hO5 := zz hO5
      replace hjk := zz hjk
      clear hb5 hdis hxj hO4
      go_upto_region 9 with fail
      rw [<- hW5]
      replace hW5 := zz hW5
      replace hR5 := zz hR5
      clear q1 q2 q3
      cases hx : (lo.toList == lj.toList) with
      | true =>
       go_wp2
       go_ret
       first
        | exact .inl ⟨rfl, hO3.out.old hO5.out⟩
        | exact ⟨false, rfl, hO3.out.old hO5.out, fun h => by cases h⟩
      | false =>
       have hne : lo ≠ lj := fun e => by rw [e] at hx; simp at hx
       replace hdn := zz (hdn.out hne)
       replace hne := zz hne
       go_wp2
       go_roundg (gk - 1)
       case measure => have := hjk.out; omega
       case rel => exact ⟨j + 1, rfl, by have := hjk.out; omega, hO5.out, hdn.out⟩
     ·have hj2 : ¬ (j : Int) < (i : Int) := by omega
      have hje : j = i := by omega
      subst hje
      have hn := hnext.out hdis
      have hO5 := hO3.out.old hO4
      replace hn := zz hn
      replace hO5 := zz hO5
      clear hdis hO4 hjk
      go_wp2
      go_roundg (ko - 1)
      case measure => have := hik.out; omega
      case rel => exact ⟨j + 1, rfl, by have := hik.out; omega, hO5.out, hn.out⟩
  ·have hi2 : ¬ (i : Int) < (na : Int) := by omega
   have hie : i = na := by omega
   have hfin : ∃ kv, AtsOk ats kv := by
    obtain ⟨kv, hk⟩ := hkv
    rw [hie, hna.out, List.take_length] at hk
    exact ⟨kv, hk⟩
   replace hO := zz hO
   replace hfin := zz hfin
   clear hkv hie
   go_wp2
   go_ret
   first
    | exact .inr ⟨rfl, hO.out, hfin.out⟩
    | exact ⟨true, rfl, hO.out, fun _ => hfin.out⟩
end Go.Proofs.YtepbbahdhhjibaaGreatDoor
