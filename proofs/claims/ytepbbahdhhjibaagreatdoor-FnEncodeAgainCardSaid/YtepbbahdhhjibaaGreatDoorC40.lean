/- own text -/
import Derived.Orders
import Derived.RegionTactic
import Derived.Deep.Cut
import Derived.Test.YtepbbahdhhjibaaGreatDoorC39
namespace Go.Proofs.YtepbbahdhhjibaaGreatDoor
set_option linter.unusedSimpArgs false
set_option linter.unusedVariables false
set_option maxHeartbeats 8000000
set_option maxRecDepth 100000
section
open Go.RowKit
def BOk (bnd : List (List (ByteArray × ByteArray))) : Prop := ∀ l ∈ bnd, ∀ x ∈ l, x.2.size = 0 -> x.1.size = 0
theorem BndG.get {w : World} {A : Nat -> Prop} : ∀ {ls : List (List (ByteArray × ByteArray))} {cs : List Value}, BndG w A ls cs -> ∀ (m : Nat) (h : m < ls.length), ∃ bv, cs[m]? = some bv /\ PairG w A bv ls[m] := by
 intro ls
 induction ls with
 | nil => intro cs _ m h; exact absurd h (Nat.not_lt_zero _)
 | cons l ls ih =>
  rintro cs ⟨bv, rest, rfl, h2, h3⟩ m hm
  cases m with
  | zero => exact ⟨bv, rfl, h2⟩
  | succ m =>
   obtain ⟨bv', e1, e2⟩ := ih h3 m (by simpa using hm)
   exact ⟨bv', by simpa using e1, by simpa using e2⟩
theorem prC_get : ∀ (l : List (ByteArray × ByteArray)) (i : Nat) (h : i < l.length), (prC l)[i * 2]? = some (.string l[i].1) /\ (prC l)[i * 2 + 1]? = some (.string l[i].2) := by
 intro l
 induction l with
 | nil => intro i h; exact absurd h (Nat.not_lt_zero _)
 | cons x l ih =>
  intro i hi
  cases i with
  | zero => exact ⟨rfl, rfl⟩
  | succ i =>
   obtain ⟨e1, e2⟩ := ih i (by simpa using hi)
   have e : prC (x :: l) = .string x.1 :: .string x.2 :: prC l := rfl
   rw [e, show (i + 1) * 2 = i * 2 + 1 + 1 by omega]
   exact ⟨by simpa using e1, by simpa using e2⟩
theorem ownsRow_shape {w : World} {e : TypeId} {size n : Nat} {v : Value} {xs : List Value} (h : w.ownsRow 0 e size v n xs) : ∃ p c, v = .slice p (n : Nat) c := by
 rcases h.2 with ⟨h1, h2⟩ | ⟨g, cap, cur, h1, _⟩
 ·subst h2; exact ⟨_, _, h1⟩
 ·exact ⟨_, _, h1⟩
theorem toList_inj {a b : ByteArray} (h : (a.toList == b.toList) = true) : a = b := by
 rw [beq_iff_eq, Go.ByteArray.toList_eq, Go.ByteArray.toList_eq] at h
 exact bytes_eq h
structure RsP (w w' : World) (r pfx : ByteArray) : Prop where
 old : Old w w'
 nz : r.size = 0 -> pfx.size = 0
theorem resolve_do (P : Nat) (s : ByteArray) (base : Nat) (w : World) (a : Nat) (q : PV) (vd : Int) (gs : List GT) (opn : List ByteArray) (bnd : List (List (ByteArray × ByteArray))) (h : SQ P s base w a q vd gs opn bnd) (hok : BOk bnd) (hl : bnd.length <= 1000000) (pfx : ByteArray) (el : Bool) :
  Calls Tryz.prog 165 #[.pointer (some ⟨P, 0, none⟩), .string pfx, .bool el] w fun e w' => ∃ r : ByteArray, e = .returned (.string r) /\ RsP w w' r pfx := by
 obtain ⟨bs, hrow, hB⟩ := h.bnd
 obtain ⟨pb, cb, hqb⟩ := ownsRow_shape hrow
 have hc7 : ∀ w', Old w w' -> w'.cell? ⟨P, 7, none⟩ = some (.slice pb (bnd.length : Nat) cb) := fun w' ho => by
  have := (h.blk.keep ho (fun h => h)).cell 7
  rw [this, <- hqb]; rfl
 have hc4 : ∀ w', Old w w' -> w'.cell? ⟨P, 4, none⟩ = some (.string ⟨#[]⟩) := fun w' ho => by
  have := (h.blk.keep ho (fun h => h)).cell 4
  rw [this]; rfl
 have hget : ∀ m (hm : m < bnd.length), ∃ g pa ca, pb = some ⟨g, 0, none⟩ /\ (∀ w', Old w w' -> w'.cell? ⟨g, m, none⟩ = some (.slice pa (bnd[m].length : Nat) ca)) /\ bnd[m].length <= 1000000 /\ (∀ x ∈ bnd[m], x.2.size = 0 -> x.1.size = 0) /\ ∀ i (hi : i < bnd[m].length), ∃ g2, pa = some ⟨g2, 0, none⟩ /\ ∀ w', Old w w' -> w'.cell? ⟨g2, i * 2, none⟩ = some (.string (bnd[m][i]).1) /\ w'.cell? ⟨g2, i * 2 + 1, none⟩ = some (.string (bnd[m][i]).2) := fun m hm => by
  obtain ⟨g, cap, hv, _, hc⟩ := ownsRow_some hrow (by omega)
  obtain ⟨bv, e1, e2⟩ := hB.get m hm
  obtain ⟨pa, ca, e3⟩ := ownsRow_shape e2.row
  refine ⟨g, pa, ca, by rw [hqb] at hv; injection hv, fun w' ho => ?_, e2.len, hok _ (List.getElem_mem hm), fun i hi => ?_⟩
  ·rw [<- e3]; exact ho.cell (hc _ _ e1)
  ·obtain ⟨g2, cap2, hv2, _, hc2⟩ := ownsRow_some e2.row (by omega)
   obtain ⟨x1, x2⟩ := prC_get bnd[m] i hi
   exact ⟨g2, by rw [e3] at hv2; injection hv2, fun w' ho => ⟨ho.cell (hc2 _ _ x1), ho.cell (hc2 _ _ x2)⟩⟩
 obtain ⟨N, hN⟩ : ∃ N, N = bnd.length := ⟨_, rfl⟩
 rw [<- hN] at hc7 hl
 have c7 := hc7 w (Fr.refl _ w)
 have i0 : IntKind.i64.wrap ((N : Int) - 1) = (N : Int) - 1 := IntWalk.i64_in _ (by omega)
 replace hN := zz hN
 replace hc7 := zz hc7
 replace hc4 := zz hc4
 replace hget := zz hget
 clear h hrow hB hqb hok
 have hem : pfx = ⟨#[]⟩ \/ (¬ pfx.toList = [] /\ pfx.toList.isEmpty = false) := by
  by_cases hz : pfx.size = 0
  ·exact .inl (bytes_eq (list_nil hz))
  ·have := toList_ne (s := pfx) (Nat.pos_of_ne_zero hz)
   exact .inr ⟨fun e => by rw [e] at this; exact absurd this (by decide), this⟩
 rcases hem with rfl | ⟨m1, m2⟩
 ·cases el
  ·go_enter Tryz.func165, Tryz.ntmps165
   go_wp2
   go_ret
   exact ⟨_, rfl, Fr.refl _ _, fun h => h⟩
  ·go_enter Tryz.func165, Tryz.ntmps165
   go_wp2
   clear c7
   go_loopg [7] N (fun k u7 wr => u7 = .int .i64 ((k : Int) - 1) /\ k <= N /\ Old w wr)
   case atStart => exact ⟨rfl, Nat.le_refl _, Fr.refl _ w⟩
   case round =>
    obtain ⟨rfl, hkN, hO⟩ := hrel
    rcases gk with _ | m
    ·have d4 := hc4.out wr hO
     go_wp2
     go_ret
     exact ⟨_, rfl, hO, fun h => h⟩
    ·obtain ⟨g, pa, ca, rfl, z1, z2, z3, z4⟩ := hget.out m (by have := hN.out; omega)
     have e1 : ((m + 1 : Nat) : Int) - 1 = (m : Int) := by omega
     rw [e1]
     have d7 := hc7.out wr hO
     have y1 := z1 wr hO
     have i1 : (m : Int) < (N : Int) := by omega
     have i2 : IntKind.i64.wrap ((m : Int) - 1) = (m : Int) - 1 := IntWalk.i64_in _ (by omega)
     obtain ⟨M, hM⟩ : ∃ M, M = (bnd[m]'(by have := hN.out; omega)).length := ⟨_, rfl⟩
     rw [<- hM] at y1 z2
     replace z1 := zz z1
     replace z3 := zz z3
     replace z4 := zz z4
     replace hO := zz hO
     replace hM := zz hM
     go_wp2
     go_loopg [41] M (fun k u41 wr => ∃ i : Nat, u41 = .int .i64 i /\ i + k = M /\ Old w wr)
     case atStart => exact ⟨0, rfl, by omega, hO.out⟩
     case round =>
      obtain ⟨i, rfl, hik, hO2⟩ := hrel
      by_cases hi : i < M
      ·obtain ⟨g2, rfl, x1⟩ := z4.out i (by have := hM.out; omega)
       obtain ⟨x2, x3⟩ := x1 _ hO2
       have hx := z3.out _ (List.getElem_mem (by have := hM.out; omega : i < _))
       generalize hpr : (bnd[m]'(by have := hN.out; omega))[i]'(by have := hM.out; omega) = pr at x2 x3 hx
       obtain ⟨nm, tx⟩ := pr
       replace hx := zz hx
       have i3 : (i : Int) < (M : Int) := by omega
       have i4 : IntKind.i64.wrap ((i : Int) + 1) = ((i + 1 : Nat) : Int) := by rw [IntWalk.i64_in _ (by omega)]; omega
       have hA : Old w (wr.alloc (.cells #[.string nm, .string tx] 275)) := hO2.alloc _
       replace hO2 := zz hO2
       replace hA := zz hA
       clear x1 hpr
       replace hik := zz hik
       replace hi := zz hi
       go_wp2
       ·go_ret
        exact ⟨_, rfl, hA.out, fun _ => rfl⟩
       ·go_roundg (M - (i + 1))
        case measure => have := hik.out; have := hi.out; omega
        case rel => exact ⟨i + 1, rfl, by have := hik.out; have := hi.out; omega, hA.out⟩
      ·have i3 : ¬ (i : Int) < (M : Int) := by omega
       clear hik hi
       replace hO2 := zz hO2
       go_wp2
       go_roundg m
       case measure => omega
       case rel => exact ⟨rfl, by omega, hO2.out⟩
 ·go_enter Tryz.func165, Tryz.ntmps165
  cases hp1 : (pfx.toList == [120, 109, 108, 110, 115])
  case true =>
   go_wp2
   go_ret
   exact ⟨_, rfl, Fr.refl _ _, fun h => h⟩
  case false =>
   cases hp2 : (pfx.toList == [120, 109, 108])
   case true =>
    go_wp2
    go_ret
    exact ⟨_, rfl, Fr.refl _ _, fun h => absurd h (by decide)⟩
   case false =>
    go_wp2
    clear c7
    go_loopg [7] N (fun k u7 wr => u7 = .int .i64 ((k : Int) - 1) /\ k <= N /\ Old w wr)
    case atStart => exact ⟨rfl, Nat.le_refl _, Fr.refl _ w⟩
    case round =>
     obtain ⟨rfl, hkN, hO⟩ := hrel
     rcases gk with _ | m
     ·have d4 := hc4.out wr hO
      go_wp2
      go_ret
      exact ⟨_, rfl, hO, fun h => h⟩
     ·obtain ⟨g, pa, ca, rfl, z1, z2, z3, z4⟩ := hget.out m (by have := hN.out; omega)
      have e1 : ((m + 1 : Nat) : Int) - 1 = (m : Int) := by omega
      rw [e1]
      have d7 := hc7.out wr hO
      have y1 := z1 wr hO
      have i1 : (m : Int) < (N : Int) := by omega
      have i2 : IntKind.i64.wrap ((m : Int) - 1) = (m : Int) - 1 := IntWalk.i64_in _ (by omega)
      obtain ⟨M, hM⟩ : ∃ M, M = (bnd[m]'(by have := hN.out; omega)).length := ⟨_, rfl⟩
      rw [<- hM] at y1 z2
      replace z1 := zz z1
      replace z3 := zz z3
      replace z4 := zz z4
      replace hO := zz hO
      replace hM := zz hM
      go_wp2
      go_loopg [41] M (fun k u41 wr => ∃ i : Nat, u41 = .int .i64 i /\ i + k = M /\ Old w wr)
      case atStart => exact ⟨0, rfl, by omega, hO.out⟩
      case round =>
       obtain ⟨i, rfl, hik, hO2⟩ := hrel
       by_cases hi : i < M
       ·obtain ⟨g2, rfl, x1⟩ := z4.out i (by have := hM.out; omega)
        obtain ⟨x2, x3⟩ := x1 _ hO2
        have hx := z3.out _ (List.getElem_mem (by have := hM.out; omega : i < _))
        generalize hpr : (bnd[m]'(by have := hN.out; omega))[i]'(by have := hM.out; omega) = pr at x2 x3 hx
        obtain ⟨nm, tx⟩ := pr
        replace hx := zz hx
        have i3 : (i : Int) < (M : Int) := by omega
        have i4 : IntKind.i64.wrap ((i : Int) + 1) = ((i + 1 : Nat) : Int) := by rw [IntWalk.i64_in _ (by omega)]; omega
        have hA : Old w (wr.alloc (.cells #[.string nm, .string tx] 275)) := hO2.alloc _
        replace hO2 := zz hO2
        replace hA := zz hA
        clear x1 hpr
        replace hik := zz hik
        replace hi := zz hi
        go_wp2
        ·go_ret
         refine ⟨_, rfl, hA.out, fun h => ?_⟩
         have := toList_inj ‹(nm.toList == pfx.toList) = true›
         rw [<- this]
         exact hx.out h
        ·go_roundg (M - (i + 1))
         case measure => have := hik.out; have := hi.out; omega
         case rel => exact ⟨i + 1, rfl, by have := hik.out; have := hi.out; omega, hA.out⟩
       ·have i3 : ¬ (i : Int) < (M : Int) := by omega
        clear hik hi
        replace hO2 := zz hO2
        go_wp2
        go_roundg m
        case measure => omega
        case rel => exact ⟨rfl, by omega, hO2.out⟩
end
section
open Go.RowKit
def colon (p l : ByteArray) : ByteArray := p ++ ⟨#[58]⟩ ++ l
structure CloP (P : Nat) (s : ByteArray) (base a : Nat) (q : PV) (vd : Int) (gs : List GT) (opn : List ByteArray) (bnd : List (List (ByteArray × ByteArray))) (p l : ByteArray) (w : World) (e : Ending) (w' : World) : Prop where
 ex : ∃ ok : Bool, e = .returned (.bool ok) /\ ((ok = false /\ FailP P s q w w') \/ (ok = true /\ ∃ q' opn' bnd' x r, opn = opn' ++ [colon p l] /\ bnd = bnd' ++ [x] /\ (r.size = 0 -> p.size = 0) /\ SQ P s base w' a q' vd (gs ++ [⟨2, r, l, [], ⟨#[]⟩, (a : Nat)⟩]) opn' bnd' /\ GoP P q w q' w'))
theorem snoc_or {α : Type} (l : List α) : l = [] \/ ∃ t x, l = t ++ [x] := by
 rcases List.eq_nil_or_concat l with h | ⟨t, x, h⟩
 ·exact .inl h
 ·exact .inr ⟨t, x, by simpa using h⟩
theorem BndG.pop {w : World} {A : Nat -> Prop} {x : List (ByteArray × ByteArray)} : ∀ {ls : List (List (ByteArray × ByteArray))} {cs : List Value}, BndG w A (ls ++ [x]) cs -> ∃ cs' bv, cs = cs' ++ [bv] /\ BndG w A ls cs' := by
 intro ls
 induction ls with
 | nil =>
  rintro cs ⟨bv, rest, h1, h2, h3⟩
  have h3' : rest = [] := h3
  subst h3'
  exact ⟨[], bv, h1, rfl⟩
 | cons l ls ih =>
  rintro cs ⟨bv, rest, h1, h2, h3⟩
  obtain ⟨cs', bv', e1, e2⟩ := ih h3
  exact ⟨bv :: cs', bv', by rw [h1, e1]; rfl, bv, cs', rfl, h2, e2⟩
theorem close_do (P : Nat) (s : ByteArray) (base : Nat) (w : World) (a : Nat) (q : PV) (vd : Int) (gs : List GT) (opn : List ByteArray) (bnd : List (List (ByteArray × ByteArray))) (h : SQ P s base w a q vd gs opn bnd) (hn : gs.length <= 1000000) (hbase : base <= w.heap.size) (haz : a <= s.size) (hok : BOk bnd) (hln : opn.length <= 1000000) (hlb : bnd.length = opn.length) (p l : ByteArray) (hp : p.size <= 1000000) (hl : l.size <= 1000000) :
  Calls Tryz.prog 132 #[.pointer (some ⟨P, 0, none⟩), .string p, .string l] w (CloP P s base a q vd gs opn bnd p l w) := by
 have hPw := h.blk.lt
 obtain ⟨T, hT⟩ : ∃ T, T = w.heap.size := ⟨_, rfl⟩
 obtain ⟨W0, hW0⟩ : ∃ W0, W0 = w.alloc (.cells #[.int .i64 2, .string p, .string l, .slice none 0 0, .string ⟨#[]⟩, .int .i64 0] 28) := ⟨_, rfl⟩
 have hO0 : Old w W0 := by rw [hW0]; exact (Fr.refl _ w).alloc _
 have hb0 : Blk W0 T #[.int .i64 2, .string p, .string l, .slice none 0 0, .string ⟨#[]⟩, .int .i64 0] 28 := by rw [hW0, hT]; exact Blk.new w _ _
 have hTP : ¬ T = P := by omega
 have h0 := h.old hO0
 have hadd1 : ∀ w1, (Op.stringOp .add p ⟨#[58]⟩).run Tryz.prog w1 = .ok (.string (p ++ ⟨#[58]⟩)) w1 := fun w1 => run_string_add_sum w1 _ _ (by have : (ByteArray.mk #[58]).size = 1 := rfl; omega)
 have hadd2 : ∀ w1, (Op.stringOp .add (p ++ ⟨#[58]⟩) l).run Tryz.prog w1 = .ok (.string (colon p l)) w1 := fun w1 => run_string_add_sum w1 _ _ (by have : (ByteArray.mk #[58]).size = 1 := rfl; rw [ByteArray.size_append]; omega)
 have hfl : ∀ w1, Old w w1 -> Calls Tryz.prog 82 #[.pointer (some ⟨P, 0, none⟩), .int .i64 1] w1 fun e w' => e = .returned (.bool false) /\ Hid (FailP P s q w w') := fun w1 ho => ((SP.start h.blk).old ho).fail 1 (by decide) haz
 obtain ⟨_, _, c2, _, _, _, c6, c7, _, cf⟩ := h0.blk.c
 replace hfl := zz hfl
 replace hW0 := zz hW0
 replace hO0 := zz hO0
 rcases snoc_or opn with rfl | ⟨opn', y, rfl⟩
 ·obtain ⟨p6, k6, hp6⟩ := ownsRow_shape h.opn
  rw [hp6] at c6
  clear h h0 hb0 c7 hadd1 hadd2
  go_enter Tryz.func132, Tryz.ntmps132
  go_upto_region 2 with (fail)
  rw [<- hW0.out]
  go_wp2_with (go_at_call 82; refine (hfl.out _ hO0.out).mono ?_; rintro e w1 ⟨rfl, k1⟩)
  go_ret
  exact ⟨⟨false, rfl, .inl ⟨rfl, k1.out⟩⟩⟩
 ·obtain ⟨m, hm⟩ : ∃ m, m = opn'.length := ⟨_, rfl⟩
  rcases snoc_or bnd with rfl | ⟨bnd', x, rfl⟩
  ·simp at hlb
  have hlb' : bnd'.length = m := by simp at hlb; omega
  have r6 := h0.opn
  obtain ⟨bs, r7, hB⟩ := h0.bnd
  have e6 : (opn' ++ [y]).length = m + 1 := by simp [hm]
  have e7 : (bnd' ++ [x]).length = m + 1 := by simp [hlb']
  rw [e6] at r6 hln
  rw [e7] at r7
  obtain ⟨g6, cap6, hp6, hle6, hc6⟩ := ownsRow_some r6 (by omega)
  obtain ⟨g7, cap7, hp7, hle7, hc7⟩ := ownsRow_some r7 (by omega)
  have cy : W0.cell? ⟨g6, m, none⟩ = some (.string y) := hc6 _ _ (by rw [hm]; simp)
  rw [hp6] at c6
  rw [hp7] at c7
  have i0 : (((m + 1 : Nat) : Int) == 0) = false := by rw [beq_eq_false_iff_ne]; omega
  have i1 : IntKind.i64.wrap (((m + 1 : Nat) : Int) - 1) = (m : Int) := by rw [IntWalk.i64_in _ (by omega)]; omega
  have i2 : (m : Int) < ((m + 1 : Nat) : Int) := by omega
  obtain ⟨M, hM⟩ : ∃ M, M = m + 1 := ⟨_, rfl⟩
  rw [<- hM] at i0 i1 i2 c6 c7
  have hTc : ∀ w1, Old W0 w1 -> w1.cell? ⟨T, 1, none⟩ = some (.string p) /\ w1.frozen? ⟨T, 1, none⟩ = false := fun w1 ho => by
   have := hb0.keep ho (fun h => h)
   exact ⟨by rw [this.cell]; rfl, this.fz 1⟩
  by_cases hy : y = colon p l
  ·subst hy
   have hrs := resolve_do P s base W0 a q vd gs _ _ h0 hok (by rw [e7]; omega) p true
   have hx : ((colon p l).toList != (colon p l).toList) = false := by simp
   generalize hY : colon p l = Y at *
   replace hY := zz hY
   have h0' := zz h0
   have hrs' := zz hrs
   have h' := zz h
   have hb0' := zz hb0
   have hTc' := zz hTc
   have hM' := zz hM
   have hm' := zz hm
   have hB' := zz hB
   have r6' := zz r6
   have r7' := zz r7
   have hle6' := zz hle6
   have hle7' := zz hle7
   have hbase' := zz hbase
   replace hlb' := zz hlb'
   clear h0 hrs h hb0 hTc hB r6 r7 hc6 hc7 hok hln hlb hm hM e6 e7 hbase
   go_enter Tryz.func132, Tryz.ntmps132
   go_upto_region 2 with (fail)
   rw [<- hW0.out, <- hT]
   replace hT := zz hT
   go_upto_region 8 with (go_at_call 165; refine hrs'.out.mono ?_; rintro e w1 ⟨r, rfl, k1⟩; obtain ⟨t1, t2⟩ := hTc'.out _ k1.old; replace k1 := zz k1)
   clear t1 t2 cy c2 c6 c7 cf hx
   obtain ⟨W2, hW2⟩ : ∃ W2, W2 = w1.setCell ⟨T, 1, none⟩ (.string r) := ⟨_, rfl⟩
   rw [<- hW2]
   have hB1 : PB w1 P s a q vd := h0'.out.blk.keep k1.out.old (fun h => h)
   have hB2 : PB W2 P s a q vd := by
    rw [hW2]; exact hB1.keep ((Fr.refl (fun x => x = T) w1).set (Or.inl rfl) _ _) (fun e => hTP e.symm)
   have hT2 : Blk W2 T #[.int .i64 2, .string r, .string l, .slice none 0 0, .string ⟨#[]⟩, .int .i64 0] 28 := by
    rw [hW2]; exact (hb0'.out.keep k1.out.old (fun h => h)).set 1 _
   have hF2 : Old w W2 := by
    rw [hW2]; exact (hO0.out.trans k1.out.old (fun _ h => .inl h)).set (Or.inr (by rw [hT.out]; exact Nat.le_refl _)) _ _
   obtain ⟨_, _, _, _, _, _, c6, c7, _, cf⟩ := hB2.c
   rw [hp6] at c6
   rw [hp7] at c7
   have i3 : (0 : Int) <= (m : Int) := by omega
   have i4 : (m : Int) <= (cap6 : Int) := by have := hle6'.out; omega
   have i5 : (m : Int) <= (cap7 : Int) := by have := hle7'.out; omega
   have i6 : m <= cap6 := by omega
   have i7 : m <= cap7 := by omega
   replace hB2 := zz hB2
   replace hT2 := zz hT2
   replace hF2 := zz hF2
   replace hW2 := zz hW2
   clear hB1
   go_cut [] from 47 to 66 (fun wx => PB wx P s a ⟨q.ov, .slice (some ⟨g6, 0, none⟩) m cap6, .slice (some ⟨g7, 0, none⟩) m cap7⟩ vd /\ FrP P W2 wx)
   case first =>
    go_region_law (fail)
    all_goals go_wp2_with fail
    all_goals go_meet
    all_goals first
     | exact ⟨(Blk.set (Blk.set (hB2.out.keep ((Fr.refl (fun _ => False) W2).drew) (fun h => h)) 6 _) 7 _), ((((Fr.refl (fun x => x = P) W2).drew).set (Or.inl rfl) _ _).set (Or.inl rfl) _ _)⟩
   case rest =>
    obtain ⟨bP, fP⟩ := hcut
    have f : FrP P w wc := (Fr.of_old hF2.out).trans fP (fun _ h => .inl h)
    have hq := h'.out
    have hso : ∀ x, SO P ⟨q.ov, .slice (some ⟨g6, 0, none⟩) m cap6, .slice (some ⟨g7, 0, none⟩) m cap7⟩ x ↔ SO P q x := fun x => by
     unfold SO; rw [hp6, hp7]; exact Iff.rfl
    have hA : ∀ k, k < w.heap.size -> SA P q k -> ¬ k = P /\ SA P ⟨q.ov, .slice (some ⟨g6, 0, none⟩) m cap6, .slice (some ⟨g7, 0, none⟩) m cap7⟩ k := fun k _ hs => ⟨fun e => hs (.inl e), fun e => hs ((hso k).1 e)⟩
    have hsq : SQ P s base wc a ⟨q.ov, .slice (some ⟨g6, 0, none⟩) m cap6, .slice (some ⟨g7, 0, none⟩) m cap7⟩ vd gs opn' bnd' := by
     obtain ⟨cs, o1, o2⟩ := hq.out
     obtain ⟨bs2, b1, b2⟩ := hq.bnd
     obtain ⟨bs', bv, rfl, b3⟩ := b2.pop
     have hlen : bs'.length = m := by rw [b3.len]; exact hlb'.out
     have p1 := ownsRow_frame hq.opn f (fun k hk e => (hq.dp k hk).1 e)
     have p2 := ownsRow_frame b1 f (fun k hk e => hq.db k hk e)
     have em : (opn' ++ [Y]).length = m + 1 := by simp [hm'.out]
     have em7 : (bnd' ++ [x]).length = m + 1 := by simp [hlb'.out]
     rw [em, hp6, List.map_append] at p1
     rw [em7, hp7] at p2
     refine ⟨bP, ⟨cs, ownsRow_frame o1 f (fun k hk e => (hq.do_ k hk).1 e), o2.keep f hA⟩, ?_, ⟨bs', ?_, b3.keep f hA⟩, fun k hk => ?_, fun k hk => ?_, fun k hk => ?_, fun x hx => hq.lo x ((hso x).1 hx)⟩
     ·rw [<- hm'.out]; exact ownsRow_pop p1 (by simp [hm'.out])
     ·rw [hlb'.out]; exact ownsRow_pop p2 (by rw [hlen, Nat.mul_one])
     ·have := hq.do_ k hk; rw [hp6, hp7] at this; exact this
     ·have := hq.dp k (by rw [hp6]; exact hk); rw [hp7] at this; exact this
     ·exact hq.db k (by rw [hp7]; exact hk)
    have hgo : GoP P q w ⟨q.ov, .slice (some ⟨g6, 0, none⟩) m cap6, .slice (some ⟨g7, 0, none⟩) m cap7⟩ wc := ⟨f.mono (fun x hx => .inl (.inl hx)), fun x hx => .inl ((hso x).1 hx)⟩
    have hTc := hT2.out.keep fP hTP
    have z0 : wc.cell? ⟨T, 0, none⟩ = some (.int .i64 2) := by rw [hTc.cell]; rfl
    have z1 : wc.cell? ⟨T, 1, none⟩ = some (.string r) := by rw [hTc.cell]; rfl
    have z2 : wc.cell? ⟨T, 2, none⟩ = some (.string l) := by rw [hTc.cell]; rfl
    have z3 : wc.cell? ⟨T, 3, none⟩ = some (.slice none 0 0) := by rw [hTc.cell]; rfl
    have z4 : wc.cell? ⟨T, 4, none⟩ = some (.string ⟨#[]⟩) := by rw [hTc.cell]; rfl
    have z5 : wc.cell? ⟨T, 5, none⟩ = some (.int .i64 0) := by rw [hTc.cell]; rfl
    have hadd := (add_do P s base wc a _ vd gs opn' bnd' hsq hn (Nat.le_trans hbase'.out f.size) 2 r l _ [] ⟨#[]⟩ (AttrG.nil _ _) 0).mono (R' := fun e w' => e = .returned (.bool true) /\ Hid (∃ q', SQ P s base w' a q' vd (gs ++ [⟨2, r, l, [], ⟨#[]⟩, a⟩]) opn' bnd' /\ GoP P q w q' w')) (by
     rintro e w' ⟨rfl, q', h1, h2, _⟩
     exact ⟨rfl, q', h1, hgo.tr h2⟩)
    replace hadd := zz hadd
    clear bP fP f hq hso hA hsq hgo hTc c6 c7 cf
    go_wp2_with (go_at_call 129; refine hadd.out.mono ?_; rintro e w3 ⟨rfl, k3⟩)
    go_ret
    obtain ⟨q', x1, x2⟩ := k3.out
    exact ⟨⟨true, rfl, .inr ⟨rfl, q', opn', bnd', x, r, by rw [hY.out], rfl, k1.out.nz, x1, x2⟩⟩⟩
  ·have e0 : (y.toList == (colon p l).toList) = false := by
    cases hc : (y.toList == (colon p l).toList)
    ·rfl
    ·exact absurd (toList_inj hc) hy
   have e1 : (y.toList != (colon p l).toList) = true := by show (!(y.toList == (colon p l).toList)) = true; rw [e0]; rfl
   generalize colon p l = Y at *
   replace hM := zz hM
   replace hm := zz hm
   clear h0 h hb0 hTc hB r6 r7 hc6 hc7 hok hln hlb hlb' e6 e7 hbase
   go_enter Tryz.func132, Tryz.ntmps132
   go_upto_region 2 with (fail)
   rw [<- hW0.out, <- hT]
   replace hT := zz hT
   go_wp2_with (go_at_call 82; refine (hfl.out _ hO0.out).mono ?_; rintro e w1 ⟨rfl, k1⟩)
   go_ret
   exact ⟨⟨false, rfl, .inl ⟨rfl, k1.out⟩⟩⟩
end
section
open Go.RowKit
def unl (l : Array Bool) : Nat := (l.toList.filter (!·)).length
theorem unl_set : ∀ (l : List Bool) (i : Nat), l[i]? = some false -> ((l.set i true).filter (!·)).length + 1 = (l.filter (!·)).length := by
 intro l
 induction l with
 | nil => intro i h; simp at h
 | cons b l ih =>
  intro i h
  cases i with
  | zero =>
   have hb : b = false := by simpa using h
   subst hb
   simp
  | succ i =>
   have := ih i (by simpa using h)
   cases b <;> simp at this ⊢ <;> omega
theorem getD_false {listed : Array Bool} {i : Nat} (h : listed.getD i true = false) : listed.toList[i]? = some false := by
 rw [Array.getD_eq_getD_getElem?] at h
 rw [Array.getElem?_toList]
 cases hx : listed[i]? with
 | none => rw [hx] at h; cases h
 | some b => rw [hx] at h; exact congrArg some h
theorem wpAny_inv {P : Program} {md : Region.Mode} {ops : Array Oper} {Q : Exit -> Act -> World -> Prop} (S : Array Bool -> Act -> World -> Prop)
  (hstep : ∀ listed a w i o, ops[i]? = some o -> listed.size = ops.size -> listed.getD i true = false -> (∀ e ∈ o.after, Region.binds md e = true -> listed.getD e.on false = true) -> S listed a w ->
   ∀ K : Act -> World -> Prop, (∀ a w, S (listed.setIfInBounds i true) a w -> K a w) -> if Region.wanted o (yielded ops a.tmps) = true then o.wp P a w K Q else K (a.put o.dst undef) w)
  (hend : ∀ listed a w, listed.size = ops.size -> Region.ready md ops listed = [] -> S listed a w -> Q .normal a w) :
  ∀ (f : Nat) (listed : Array Bool) (a : Act) (w : World), listed.size = ops.size -> unl listed <= f -> S listed a w -> wpAny P md ops Q f listed a w := by
 intro f
 induction f with
 | zero =>
  intro listed a w hs hu hS
  have hr : Region.ready md ops listed = [] := by
   cases hr : Region.ready md ops listed with
   | nil => rfl
   | cons x xs =>
    exfalso
    have hx : x ∈ Region.ready md ops listed := by rw [hr]; exact List.mem_cons_self
    have h1 := getD_false (mem_ready.1 hx).1
    have h2 := unl_set listed.toList x h1
    unfold unl at hu
    omega
  exact ⟨hr, hend listed a w hs hr hS⟩
 | succ f ih =>
  intro listed a w hs hu hS
  refine ⟨fun hr => hend listed a w hs hr hS, fun i hi => ?_⟩
  obtain ⟨h0, o, ho, hall⟩ := mem_ready.1 hi
  refine wpOp_step ho (fun K hK => hstep listed a w i o ho hs h0 hall hS K (fun a' w' h' => hK _ _ (ih _ a' w' (by simp [hs]) ?_ h')))
  have h2 := unl_set listed.toList i (getD_false h0)
  unfold unl at hu ⊢
  rw [Array.toList_setIfInBounds]
  omega
theorem all_listed {md : Region.Mode} {ops : Array Oper} {listed : Array Bool} (hwf : ∀ (i : Nat) (o : Oper), ops[i]? = some o -> ∀ e ∈ o.after, Region.binds md e = true -> e.on < i) (hs : listed.size = ops.size) (hr : Region.ready md ops listed = []) : ∀ i, i < ops.size -> listed.getD i false = true := by
 intro i
 induction i using Nat.strongRecOn with
 | ind i ih =>
  intro hi
  cases hg : listed.getD i true with
  | false =>
   exfalso
   have : i ∈ Region.ready md ops listed := mem_ready.2 ⟨hg, ops[i], Array.getElem?_eq_getElem hi, fun e he hb => by
    have h1 := hwf i ops[i] (Array.getElem?_eq_getElem hi) e he hb
    exact ih e.on h1 (by omega)⟩
   rw [hr] at this
   cases this
  | true =>
   rw [Array.getD_eq_getD_getElem?] at hg ⊢
   rw [Array.getElem?_eq_getElem (by omega)] at hg ⊢
   exact hg
structure Rest (lo hi : Nat) (a0 a : Act) : Prop where
 size : a.tmps.size = a0.tmps.size
 defers : a.defers = a0.defers
 slot : ∀ t, t < lo \/ hi <= t -> a.tmps[t]? = a0.tmps[t]?
theorem Rest.refl (lo hi : Nat) (a : Act) : Rest lo hi a a := ⟨rfl, rfl, fun _ _ => rfl⟩
theorem Rest.put {lo hi : Nat} {a0 a : Act} (h : Rest lo hi a0 a) {d : Nat} (hd : lo <= d /\ d < hi) (v : Value) : Rest lo hi a0 (a.put (some d) v) := by
 refine ⟨by simp [Act.put, h.size], h.defers, fun t ht => ?_⟩
 have : d ≠ t := by omega
 simp only [Act.put]
 rw [Array.getElem?_setIfInBounds_ne this]
 exact h.slot t ht
theorem slot_put_eq {a : Act} {d : Nat} {v : Value} (hd : d < a.tmps.size) : (a.put (some d) v).tmps[d]? = some v := by
 simp [Act.put, hd]
theorem slot_put_ne {a : Act} {d t : Nat} {v : Value} (h : d ≠ t) : (a.put (some d) v).tmps[t]? = a.tmps[t]? := by
 simp only [Act.put]
 rw [Array.getElem?_setIfInBounds_ne h]
theorem eval_slot {a : Act} {t : Nat} {v : Value} (h : a.tmps[t]? = some v) : a.eval (.tmp t) = v := by
 simp [Act.eval, Array.getD_eq_getD_getElem?, h]
theorem wanted_none {ops : Array Oper} {o : Oper} {a : Act} (h : o.guard = none) : Region.wanted o (yielded ops a.tmps) = true := by simp [Region.wanted, h]
theorem listed_set {listed : Array Bool} {i j : Nat} (h : (listed.setIfInBounds i true).getD j false = true) : j = i \/ listed.getD j false = true := by
 by_cases hij : i = j
 ·exact .inl hij.symm
 ·right
  rw [Array.getD_eq_getD_getElem?, Array.getElem?_setIfInBounds_ne hij, <- Array.getD_eq_getD_getElem?] at h
  exact h
theorem op_value {P : Program} {ops : Array Oper} {o : Oper} {a : Act} {w w' : World} {K : Act -> World -> Prop} {Q : Exit -> Act -> World -> Prop} {v : Value} (hg : o.guard = none) (hr : (execOp a.eval o).run P w = .ok (.value v) w') (h : K (a.put o.dst v) w') : if Region.wanted o (yielded ops a.tmps) = true then o.wp P a w K Q else K (a.put o.dst undef) w := by
 rw [if_pos (wanted_none hg)]
 unfold Oper.wp
 rw [hr]
 exact h
theorem op_skip {P : Program} {ops : Array Oper} {o : Oper} {a : Act} {w w' : World} {K : Act -> World -> Prop} {Q : Exit -> Act -> World -> Prop} (hg : o.guard = none) (hr : (execOp a.eval o).run P w = .ok .skip w') (h : K (a.put o.dst undef) w') : if Region.wanted o (yielded ops a.tmps) = true then o.wp P a w K Q else K (a.put o.dst undef) w := by
 rw [if_pos (wanted_none hg)]
 unfold Oper.wp
 rw [hr]
 exact h
def deps (md : Region.Mode) (o : Oper) : List Nat := (o.after.toList.filter (Region.binds md ·)).map (·.on)
def AllOps (Pd : Nat -> Oper -> Prop) : Nat -> List Oper -> Prop
 | _, [] => True
 | k, o :: l => Pd k o /\ AllOps Pd (k + 1) l
theorem AllOps.get {Pd : Nat -> Oper -> Prop} : ∀ {l : List Oper} {k : Nat}, AllOps Pd k l -> ∀ {i : Nat} {o : Oper}, l[i]? = some o -> Pd (k + i) o := by
 intro l
 induction l with
 | nil => intro k _ i o h; simp at h
 | cons x l ih =>
  intro k h i o ho
  cases i with
  | zero =>
   have : x = o := by simpa using ho
   subst this
   exact h.1
  | succ i =>
   have := ih h.2 (i := i) (o := o) (by simpa using ho)
   rwa [show k + 1 + i = k + (i + 1) by omega] at this
def wfOps (l : List Oper) : Bool := (List.range l.length).all fun i => match l[i]? with
 | some o => o.after.toList.all fun e => !Region.binds .any e || decide (e.on < i)
 | none => true
def StepR (P : Program) (md : Region.Mode) (ops : Array Oper) (Q : Exit -> Act -> World -> Prop) (S : (Nat -> Bool) -> Act -> World -> Prop) (k : Nat) (o : Oper) : Prop :=
 ∀ (L : Nat -> Bool) (a : Act) (w : World), L k = false -> (∀ j ∈ deps md o, L j = true) -> S L a w ->
  ∀ K : Act -> World -> Prop, (∀ a w, S (fun j => j == k || L j) a w -> K a w) -> if Region.wanted o (yielded ops a.tmps) = true then o.wp P a w K Q else K (a.put o.dst undef) w
theorem wp_region_inv {P : Program} {id : Nat} {l : List Oper} {Q : Exit -> Act -> World -> Prop} {a : Act} {w : World} (S : (Nat -> Bool) -> Act -> World -> Prop) (hm : P.follows .mixedOrders = true) (hwf : wfOps l = true)
  (hS : ∀ (L L' : Nat -> Bool) (a : Act) (w : World), (∀ j, j < l.length -> L j = L' j) -> S L a w -> S L' a w)
  (h0 : S (fun _ => false) a w.drew) (hstep : AllOps (StepR P .any l.toArray Q S) 0 l)
  (hend : ∀ (a : Act) (w : World), S (fun _ => true) a w -> Q .normal a w) : (Code.region id l.toArray true).wp P Q a w := by
 have hwf' : ∀ (i : Nat) (o : Oper), l.toArray[i]? = some o -> ∀ e ∈ o.after, Region.binds .any e = true -> e.on < i := fun i o ho e he hb => by
  have h1 : l[i]? = some o := by simpa using ho
  have h2 := List.all_eq_true.1 hwf i (List.mem_range.2 (List.getElem?_eq_some_iff.1 h1).1)
  simp only [h1, List.all_eq_true, Bool.or_eq_true, Bool.not_eq_true', decide_eq_true_eq] at h2
  exact (h2 e (by simpa using he)).resolve_left (by rw [hb]; simp)
 have hlt : ∀ (i : Nat) (o : Oper), l.toArray[i]? = some o -> i < l.length := fun i o ho => by
  have h1 : l[i]? = some o := by simpa using ho
  exact (List.getElem?_eq_some_iff.1 h1).1
 refine wp_region_any hm ?_
 refine wpAny_inv (fun listed a w => S (fun j => listed.getD j false) a w) ?_ ?_ _ _ _ _ (by simp) (by simp [unl]) (hS _ _ _ _ (fun j hj => by simp [Array.getD_eq_getD_getElem?, hj]) h0)
 ·intro listed a w i o ho hs hl hall hSl K hK
  have h1 := hstep.get (i := i) (o := o) (by simpa using ho)
  rw [Nat.zero_add] at h1
  have hl' : listed.getD i false = false := by
   have h2 := getD_false hl
   rw [Array.getElem?_toList] at h2
   rw [Array.getD_eq_getD_getElem?, h2]; rfl
  refine h1 (fun j => listed.getD j false) a w hl' (fun j hj => ?_) hSl K (fun a' w' h' => hK a' w' (hS _ _ _ _ (fun j hj => ?_) h'))
  ·obtain ⟨e, he, rfl⟩ := List.mem_map.1 hj
   obtain ⟨h3, h4⟩ := List.mem_filter.1 he
   exact hall e (by simpa using h3) h4
  ·have hi := hlt i o ho
   have hsz : listed.size = l.length := by rw [hs]; simp
   by_cases hij : j = i
   ·subst hij
    simp [Array.getD_eq_getD_getElem?, hsz, hi]
   ·have : (j == i) = false := by simpa using hij
    show (j == i || listed.getD j false) = _
    rw [this, Bool.false_or, Array.getD_eq_getD_getElem?, Array.getD_eq_getD_getElem?, Array.getElem?_setIfInBounds_ne (Ne.symm hij)]
 ·intro listed a w hs hr hSl
  have hall := all_listed hwf' hs hr
  exact hend a w (hS _ _ _ _ (fun j hj => hall j (by simpa using hj)) hSl)
theorem wp_cut_slots {P : Program} {s : Code} {K : Act -> World -> Prop} {Q' : Exit -> Act -> World -> Prop} {a : Act} {w : World} (lo n : Nat) (R : List Value -> World -> Prop)
  (rest : ∀ us : List Value, us.length = n -> ∀ w', R us w' -> K ⟨(a.tmps.toList.take lo ++ us ++ a.tmps.toList.drop (lo + n)).toArray, a.defers⟩ w')
  (hlo : lo + n <= a.tmps.size)
  (first : ∀ J : Act -> World -> Prop, (∀ a' w', Rest lo (lo + n) a a' -> R ((a'.tmps.toList.drop lo).take n) w' -> J a' w') -> s.wp P (Exit.then J Q') a w) : s.wp P (Exit.then K Q') a w := by
 refine wp_cut (fun a' w' => Rest lo (lo + n) a a' /\ R ((a'.tmps.toList.drop lo).take n) w') (fun a' w' h => ?_) (fun J K' hJ hK => first _ (fun a' w' h1 h2 => hK a' w' (hJ a' w' ⟨h1, h2⟩)))
 obtain ⟨h1, h2⟩ := h
 have h3 := rest ((a'.tmps.toList.drop lo).take n) (by have := h1.size; simp; omega) w' h2
 have e : a' = ⟨(a.tmps.toList.take lo ++ (a'.tmps.toList.drop lo).take n ++ a.tmps.toList.drop (lo + n)).toArray, a.defers⟩ := by
  obtain ⟨t', d'⟩ := a'
  have hd : d' = a.defers := h1.defers
  have hsz : t'.size = a.tmps.size := h1.size
  subst hd
  congr 1
  apply Array.ext_getElem?
  intro i
  have hL : (List.take lo a.tmps.toList ++ List.take n (List.drop lo t'.toList) ++ List.drop (lo + n) a.tmps.toList).toArray[i]? = (List.take lo a.tmps.toList ++ List.take n (List.drop lo t'.toList) ++ List.drop (lo + n) a.tmps.toList)[i]? := by simp
  rw [hL]
  have l1 : (List.take lo a.tmps.toList).length = lo := by simp; omega
  have l2 : (List.take n (List.drop lo t'.toList)).length = n := by simp; omega
  by_cases h4 : i < lo
  ·rw [List.append_assoc, List.getElem?_append_left (by omega), List.getElem?_take_of_lt h4, Array.getElem?_toList]
   exact h1.slot i (.inl h4)
  ·by_cases h5 : i < lo + n
   ·rw [List.getElem?_append_left (by rw [List.length_append, l1, l2]; omega), List.getElem?_append_right (by omega), l1]
    rw [List.getElem?_take_of_lt (by omega), List.getElem?_drop, Array.getElem?_toList]
    congr 1
    omega
   ·rw [List.getElem?_append_right (by rw [List.length_append, l1, l2]; omega), List.length_append, l1, l2, List.getElem?_drop, Array.getElem?_toList]
    rw [show lo + n + (i - (lo + n)) = i by omega]
    exact h1.slot i (.inr (by omega))
 rw [e]
 exact h3
theorem wp_cut_rest {P : Program} {s : Code} {K : Act -> World -> Prop} {Q' : Exit -> Act -> World -> Prop} {a : Act} {w : World} (lo n : Nat) (R : World -> Prop)
  (rest : ∀ us : List Value, us.length = n -> ∀ w', R w' -> K ⟨(a.tmps.toList.take lo ++ us ++ a.tmps.toList.drop (lo + n)).toArray, a.defers⟩ w')
  (hlo : lo + n <= a.tmps.size)
  (first : ∀ J : Act -> World -> Prop, (∀ a' w', Rest lo (lo + n) a a' -> R w' -> J a' w') -> s.wp P (Exit.then J Q') a w) : s.wp P (Exit.then K Q') a w :=
 wp_cut_slots lo n (fun _ w' => R w') rest hlo first
structure SV (lo hi : Nat) (vals : Nat -> Option Value) (w0 : World) (f : Act) (L : Nat -> Bool) (a : Act) (w : World) : Prop where
 rest : Rest lo hi f a
 old : Old w0 w
 val : ∀ i v, vals i = some v -> L i = true -> a.tmps[lo + i]? = some v
theorem SV.congr {lo hi : Nat} {vals : Nat -> Option Value} {w0 : World} {f : Act} {L L' : Nat -> Bool} {a : Act} {w : World} (h : SV lo hi vals w0 f L a w) (n : Nat) (hv : ∀ i v, vals i = some v -> i < n) (e : ∀ j, j < n -> L j = L' j) : SV lo hi vals w0 f L' a w :=
 ⟨h.rest, h.old, fun i v hi' hl => h.val i v hi' (by rw [e i (hv i v hi')]; exact hl)⟩
theorem SV.put {lo hi : Nat} {vals : Nat -> Option Value} {w0 : World} {f : Act} {L : Nat -> Bool} {a : Act} {w w' : World} (h : SV lo hi vals w0 f L a w) (i : Nat) (v : Value) (hv : ∀ u, vals i = some u -> v = u) (hi' : lo + i < hi) (hsz : hi <= f.tmps.size) (ho : Old w w') : SV lo hi vals w0 f (fun j => j == i || L j) (a.put (some (lo + i)) v) w' := by
 refine ⟨h.rest.put ⟨by omega, hi'⟩ v, h.old.trans ho (fun _ h => .inl h), fun j u hu hj => ?_⟩
 by_cases hji : j = i
 ·subst hji
  rw [slot_put_eq (by rw [h.rest.size]; omega), hv u hu]
 ·rw [slot_put_ne (by omega)]
  exact h.val j u hu (by simpa [hji] using hj)
theorem op_not {P : Program} {ops : Array Oper} {o : Oper} {a : Act} {w : World} {K : Act -> World -> Prop} {Q : Exit -> Act -> World -> Prop} (hg : Region.wanted o (yielded ops a.tmps) = false) (h : K (a.put o.dst undef) w) : if Region.wanted o (yielded ops a.tmps) = true then o.wp P a w K Q else K (a.put o.dst undef) w := by
 rw [hg]; exact h
theorem op_yes {P : Program} {ops : Array Oper} {o : Oper} {a : Act} {w w' : World} {K : Act -> World -> Prop} {Q : Exit -> Act -> World -> Prop} {v : Value} (hg : Region.wanted o (yielded ops a.tmps) = true) (hr : (execOp a.eval o).run P w = .ok (.value v) w') (h : K (a.put o.dst v) w') : if Region.wanted o (yielded ops a.tmps) = true then o.wp P a w K Q else K (a.put o.dst undef) w := by
 rw [if_pos hg]
 unfold Oper.wp
 rw [hr]
 exact h
theorem op_call {P : Program} {ops : Array Oper} {o : Oper} {a : Act} {w : World} {K : Act -> World -> Prop} {Q : Exit -> Act -> World -> Prop} {fn : FuncId} {args : Array Value} {R : Ending -> World -> Prop} (hg : o.guard = none) (hr : (execOp a.eval o).run P w = .ok (.enter fn args) w) (hc : Calls P fn args w R) (h : ∀ e w', R e w' -> ∃ v, e = .returned v /\ K (a.put o.dst v) w') : if Region.wanted o (yielded ops a.tmps) = true then o.wp P a w K Q else K (a.put o.dst undef) w := by
 rw [if_pos (wanted_none hg)]
 unfold Oper.wp
 rw [hr]
 refine hc.mono fun e w' hR => ?_
 obtain ⟨v, rfl, hK⟩ := h e w' hR
 exact hK
end
end Go.Proofs.YtepbbahdhhjibaaGreatDoor
