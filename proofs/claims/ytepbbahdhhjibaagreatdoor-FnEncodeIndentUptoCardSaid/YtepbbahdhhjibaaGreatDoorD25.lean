/- own text -/
import Derived.Deep.CutRange
import Derived.Deep.LoopGhost
import Derived.Test.YtepbbahdhhjibaaGreatDoorD24
namespace Go.Proofs.YtepbbahdhhjibaaGreatDoor
set_option linter.unusedSimpArgs false
set_option linter.unusedVariables false
set_option maxHeartbeats 4000000
set_option maxRecDepth 100000
set_option linter.unusedSectionVars false
section
open Go.RowKit
structure Ew (X : Px) (w0 : World) (v : Pv) (o : List UInt8) (w1 : World) : Prop where
 ex : ∃ va', Fr (fun x => x = X.P \/ X.E.own v.va x) w0 w1 /\ (∀ x, X.E.own va' x -> X.E.own v.va x \/ w0.heap.size <= x) /\ Blk w1 X.P (prA X ⟨va', v.pv, v.tv⟩ false) 103 /\ Wr X.E w1 va' o /\ X.P < w0.heap.size /\ ¬ X.E.own v.va X.P
theorem Ew.go {X : Px} {w0 w1 w2 : World} {v : Pv} {o2 : List UInt8} {va' va2 : Value} (f : Fr (fun x => x = X.P \/ X.E.own v.va x) w0 w1) (n : ∀ x, X.E.own va' x -> X.E.own v.va x \/ w0.heap.size <= x) (D : Blk w1 X.P (prA X ⟨va', v.pv, v.tv⟩ false) 103) (hP : X.P < w0.heap.size) (hPo : ¬ X.E.own v.va X.P)
  (s : WSt X.E w1 va' w2 va2) (k : Wr X.E w2 va2 o2) : Blk w2 X.P (prA X ⟨va2, v.pv, v.tv⟩ false) 103 /\ Ew X w0 v o2 (w2.setCell ⟨X.P, 13, none⟩ .nilIface) := by
 have hno : ∀ va3, (∀ x, X.E.own va3 x -> X.E.own v.va x \/ w0.heap.size <= x) -> ¬ X.E.own va3 X.P := fun va3 h e => (h _ e).elim hPo (fun h => by omega)
 have n2 : ∀ x, X.E.own va2 x -> X.E.own v.va x \/ w0.heap.size <= x := fun x hx => (s.own x hx).elim (n x) (fun h => .inr (Nat.le_trans f.size h))
 have D2 : Blk w2 X.P (prA X ⟨va2, v.pv, v.tv⟩ false) 103 := D.keep s.fr (hno _ n)
 have f2 : Fr (fun x => x = X.P) w2 (w2.setCell ⟨X.P, 13, none⟩ .nilIface) := (Fr.refl (fun x => x = X.P) w2).set (Or.inl rfl) _ _
 exact ⟨D2, va2, (f.trans s.fr (fun x hx => (n x hx).imp .inr id)).trans f2 (fun x hx => .inl (.inl hx)), n2, D2.set 13 .nilIface, k.keep f2 (fun x hx e => hno _ n2 (e ▸ hx)), hP, hPo⟩
theorem prA_cells {X : Px} {w : World} {v : Pv} (D : Blk w X.P (prA X v false) 103) : w.cell? ⟨X.P, 0, none⟩ = some (.pointer (some ⟨X.E.B, 0, none⟩)) /\ w.cell? ⟨X.P, 3, none⟩ = some (.string ⟨X.ind.toArray⟩) /\ w.cell? ⟨X.P, 4, none⟩ = some (.string ⟨X.pre.toArray⟩) /\ w.cell? ⟨X.P, 12, none⟩ = some (.bool false) /\ w.cell? ⟨X.P, 13, none⟩ = some .nilIface /\ ∀ i, w.frozen? ⟨X.P, i, none⟩ = false :=
 ⟨by rw [D.cell]; rfl, by rw [D.cell]; rfl, by rw [D.cell]; rfl, by rw [D.cell]; rfl, by rw [D.cell]; rfl, D.fz⟩
theorem Ew.drewN {X : Px} {w0 w1 : World} {v : Pv} {o : List UInt8} (h : Ew X w0 v o w1) (n : Nat) : Ew X w0 v o (w1.drewN n) := by
 obtain ⟨va', f, n', D, W, hP, hPo⟩ := h
 exact ⟨va', f.drewN n, n', D.keep ((Fr.refl (fun _ => False) w1).drewN n) (fun h => h), W.keep ((Fr.refl (fun _ => False) w1).drewN n) (fun _ _ h => h), hP, hPo⟩
section
variable {X : Px} {w0 w1 : World} {v : Pv} {o : List UInt8} (h : Ew X w0 v o w1)
include h
theorem Ew.byte (c : UInt8) (i : Int) (hi : i = c.toNat) (hl : o.length <= 1099511627776) : Calls Tryz.prog 61 #[.pointer (some ⟨X.P, 0, none⟩), .int .u8 i] w1 fun e w' => e = .returned .nilIface /\ Ew X w0 v (o ++ [c]) w' := by
 subst hi
 obtain ⟨va', f, n, D, W, hP, hPo⟩ := h
 obtain ⟨c0, _, _, c12, c13, _⟩ := prA_cells D
 have hc := (bwbyte X.E va' o c w1 W hl).mono (R' := fun e w2 => e = .returned .nilIface /\ w2.cell? ⟨X.P, 13, none⟩ = some .nilIface /\ w2.frozen? ⟨X.P, 13, none⟩ = false /\ Hid (Ew X w0 v (o ++ [c]) (w2.setCell ⟨X.P, 13, none⟩ .nilIface))) (by
  rintro e w2 ⟨rfl, va2, s, k⟩
  obtain ⟨h1, h2⟩ := Ew.go f n D hP hPo s k
  exact ⟨rfl, by rw [h1.cell]; rfl, h1.fz 13, h2⟩)
 clear f n D W
 go_enter Tryz.func61, Tryz.ntmps61
 go_wp2_with (go_at_call 109; refine hc.mono ?_; rintro e w2 ⟨rfl, k13, kf, k⟩)
 go_ret
 exact ⟨rfl, k.out⟩
theorem Ew.strl (l : List UInt8) (hl : o.length + l.length <= 1099511627776) : Calls Tryz.prog 56 #[.pointer (some ⟨X.P, 0, none⟩), .string ⟨l.toArray⟩] w1 fun e w' => (∃ q, e = .returned (.tuple #[q, .nilIface])) /\ Ew X w0 v (o ++ l) w' := by
 obtain ⟨va', f, n, D, W, hP, hPo⟩ := h
 obtain ⟨c0, _, _, c12, c13, _⟩ := prA_cells D
 have hsz : (⟨l.toArray⟩ : ByteArray).size = l.length := by rw [Lib.size_eq]
 have hc := (bwstr X.E va' o ⟨l.toArray⟩ w1 W (by rw [hsz]; exact hl)).mono (R' := fun e w2 => e = .returned (.tuple #[.int .i64 l.length, .nilIface]) /\ w2.cell? ⟨X.P, 13, none⟩ = some .nilIface /\ w2.frozen? ⟨X.P, 13, none⟩ = false /\ Hid (Ew X w0 v (o ++ l) (w2.setCell ⟨X.P, 13, none⟩ .nilIface))) (by
  rintro e w2 ⟨rfl, va2, s, k⟩
  obtain ⟨h1, h2⟩ := Ew.go f n D hP hPo s k
  exact ⟨by rw [hsz], by rw [h1.cell]; rfl, h1.fz 13, h2⟩)
 clear f n D W
 go_enter Tryz.func56, Tryz.ntmps56
 go_wp2_with (go_at_call 103; refine hc.mono ?_; rintro e w2 ⟨rfl, k13, kf, k⟩)
 go_quiet (fail)
 go_wp2
 go_ret2
 exact ⟨⟨_, rfl⟩, k.out.drewN _⟩
end
def Cw (P : Nat) (si sp : ByteArray) (d : Nat) (inn nl : Bool) (w : World) : Prop := w.cell? ⟨P, 3, none⟩ = some (.string si) /\ w.cell? ⟨P, 4, none⟩ = some (.string sp) /\ w.cell? ⟨P, 5, none⟩ = some (.int .i64 d) /\ w.cell? ⟨P, 6, none⟩ = some (.bool inn) /\ w.cell? ⟨P, 7, none⟩ = some (.bool nl) /\ ∀ i, w.frozen? ⟨P, i, none⟩ = false
section
variable {P : Nat} {E : Wx} {pre ind : List UInt8} {d : Nat} {inn nl : Bool} {w0 w1 : World} {v : Pv} {o : List UInt8} (h : Ew ⟨P, E, pre, ind, ⟨d, inn, nl⟩⟩ w0 v o w1)
include h
theorem Ew.cw : Cw P ⟨ind.toArray⟩ ⟨pre.toArray⟩ d inn nl w1 := by
 obtain ⟨va', f, n, D, W, hP, hPo⟩ := h
 exact ⟨by rw [D.cell]; rfl, by rw [D.cell]; rfl, by rw [D.cell]; rfl, by rw [D.cell]; rfl, by rw [D.cell]; rfl, D.fz⟩
theorem Ew.put (i : Nat) (u : Value) (j : Iv) (hu : ∀ va', (prA ⟨P, E, pre, ind, ⟨d, inn, nl⟩⟩ ⟨va', v.pv, v.tv⟩ false).setIfInBounds i u = prA ⟨P, E, pre, ind, j⟩ ⟨va', v.pv, v.tv⟩ false) : Ew ⟨P, E, pre, ind, j⟩ w0 v o (w1.setCell ⟨P, i, none⟩ u) := by
 obtain ⟨va', f, n, D, W, hP, hPo⟩ := h
 have f2 : Fr (fun x => x = P) w1 (w1.setCell ⟨P, i, none⟩ u) := (Fr.refl (fun x => x = P) w1).set (Or.inl rfl) _ _
 have hP' : P < w0.heap.size := hP
 have hno : ¬ E.own va' P := fun e => (n _ e).elim hPo (fun h => by omega)
 have D2 := D.set i u
 rw [hu] at D2
 exact ⟨va', f.trans f2 (fun x hx => .inl (.inl hx)), n, D2, W.keep f2 (fun x hx e => hno (e ▸ hx)), hP, hPo⟩
theorem Ew.nl10 (hb : o.length <= 1099511627776) : Calls Tryz.prog 61 #[.pointer (some ⟨P, 0, none⟩), .int .u8 10] w1 fun e w' => e = .returned .nilIface /\ Hid (Ew ⟨P, E, pre, ind, ⟨d, inn, nl⟩⟩ w0 v (o ++ [10]) w') :=
 (Ew.byte h 10 10 rfl hb).mono (fun e w' x => ⟨x.1, x.2⟩)
theorem Ew.wstr (l : List UInt8) (x : ByteArray) (hx : x = ⟨l.toArray⟩) (hb : o.length + l.length <= 1099511627776) : Calls Tryz.prog 56 #[.pointer (some ⟨P, 0, none⟩), .string x] w1 fun e w' => ∃ q, e = .returned (.tuple #[q, .nilIface]) /\ Hid (Ew ⟨P, E, pre, ind, ⟨d, inn, nl⟩⟩ w0 v (o ++ l) w') := by
 subst hx
 refine (Ew.strl h l hb).mono ?_
 rintro e w' ⟨⟨q, rfl⟩, k⟩
 exact ⟨q, rfl, k⟩
end
section
variable {P : Nat} {E : Wx} {pre ind : List UInt8} {d : Nat} {inn nl : Bool} {w0 w1 : World} {v : Pv} {o : List UInt8} (h : Ew ⟨P, E, pre, ind, ⟨d, inn, nl⟩⟩ w0 v o w1) (hin : ind ≠ [])
include h hin
theorem Ew.up0 (hd : d <= 549755813888) (hl : o.length + (lead pre ind nl d).length <= 1099511627776) : Calls Tryz.prog 96 #[.pointer (some ⟨P, 0, none⟩), .int .i64 1] w1 fun e w' => e = .returned (.tuple #[]) /\ Ew ⟨P, E, pre, ind, ⟨d + 1, true, true⟩⟩ w0 v (o ++ lead pre ind nl d) w' := by
 obtain ⟨si, hsi⟩ : ∃ si : ByteArray, si = ⟨ind.toArray⟩ := ⟨_, rfl⟩
 obtain ⟨sp, hsp⟩ : ∃ sp : ByteArray, sp = ⟨pre.toArray⟩ := ⟨_, rfl⟩
 have hcw := h.cw
 rw [<- hsi, <- hsp] at hcw
 obtain ⟨c3, c4, c5, c6, c7, cf⟩ := hcw
 have hsz : si.size = ind.length := by rw [hsi, Lib.size_eq]
 have hpz : sp.size = pre.length := by rw [hsp, Lib.size_eq]
 have hip : 0 < ind.length := List.length_pos_iff.2 hin
 have i0 : ((si.size : Int) == 0) = false := by rw [beq_eq_false_iff_ne]; omega
 have i1 : (0 : Int) < (si.size : Int) := by omega
 have i1n : 0 < si.size := by omega
 have hld : (lead pre ind nl d) = (if nl then [10] else []) ++ (pre ++ rep ind d) := rfl
 rw [hld] at hl ⊢
 have hrl := rep_len ind d
 rw [List.length_append, List.length_append] at hl
 have hn1 : (if nl then [(10 : UInt8)] else []).length <= 1 := by cases nl <;> simp
 generalize hN : (if nl then [(10 : UInt8)] else []) = N at *
 replace hsi := zz hsi
 replace hsp := zz hsp
 replace hrl := zz hrl
 have hsz' := zz hsz
 have hpz' := zz hpz
 have iD : IntKind.i64.wrap ((d : Int) + 1) = ((d + 1 : Nat) : Int) := by rw [IntWalk.i64_in _ (by omega)]; omega
 replace h := zz h
 clear hsz hpz hld
 have hps : ((sp.size : Int) == 0) = true \/ ((sp.size : Int) == 0) = false := by cases ((sp.size : Int) == 0) <;> simp
 rcases hps with p0 | p0
 all_goals (
  go_enter Tryz.func96, Tryz.ntmps96
  go_upto_if 41 with fail
  clear p0
  have h1 : Hid (Ew ⟨P, E, pre, ind, ⟨d, inn, nl⟩⟩ w0 v o w1) := h
  go_cut [] from 38 to 46 (fun wx => Ew ⟨P, E, pre, ind, ⟨d, inn, true⟩⟩ w0 v (o ++ N) wx)
  case first =>
   cases nl with
   | true =>
    go_wp2_with (go_at_call 61; refine (h1.out.nl10 (by omega)).mono ?_; rintro e w2 ⟨rfl, k1⟩)
    go_meet
    case rel => rw [<- hN]; exact k1.out
   | false =>
    have k1 := h1.out.put 7 (.bool true) ⟨d, inn, true⟩ (fun _ => rfl)
    replace k1 := zz k1
    go_wp2_with fail
    go_meet
    case rel => rw [<- hN]; simpa using k1.out
  case rest =>
   clear c3 c4 c5 c6 c7 cf h1
   have hcw := hcut.cw
   rw [<- hsi.out, <- hsp.out] at hcw
   obtain ⟨c3, c4, c5, c6, c7, cf⟩ := hcw
   replace hcut := zz hcut
   go_upto_if 52 with fail
   have h2 := hcut
   clear hcut
   go_cut [] from 47 to 58 (fun wx => Ew ⟨P, E, pre, ind, ⟨d, inn, true⟩⟩ w0 v (o ++ N ++ pre) wx)
   case first =>
    by_cases hp : sp.size = 0
    ·have hpe : pre = [] := List.length_eq_zero_iff.1 (by have := hpz'.out; omega)
     have i2 : ¬ (0 : Int) < (sp.size : Int) := by omega
     replace hpe := zz hpe; replace hp := zz hp
     go_wp2_with fail
     go_meet
     case rel => have := h2.out; simpa [hpe.out] using this
    ·have i2 : (0 : Int) < (sp.size : Int) := by omega
     replace hp := zz hp
     go_wp2_with (go_at_call 56; refine (h2.out.wstr pre sp hsp.out (by simp only [List.length_append]; omega)).mono ?_; rintro e w2 ⟨q, rfl, k1⟩)
     go_meet
     case rel => exact k1.out
   case rest =>
    clear c3 c4 c5 c6 c7 cf h2
    have hcw := hcut.cw
    rw [<- hsi.out, <- hsp.out] at hcw
    obtain ⟨c3, c4, c5, c6, c7, cf⟩ := hcw
    replace hcut := zz hcut
    go_wp2
    go_loopg [4] d (fun k u4 wr => ∃ i : Nat, u4 = .int .i64 i /\ i + k = d /\ Ew ⟨P, E, pre, ind, ⟨d, inn, true⟩⟩ w0 v (o ++ N ++ pre ++ rep ind i) wr)
    case atStart => exact ⟨0, rfl, by omega, by have := hcut.out; simpa [rep] using this⟩
    case round =>
     obtain ⟨i, rfl, hik, hE⟩ := hrel
     clear c3 c4 c5 c6 c7 cf hcut
     have hcw := hE.cw
     rw [<- hsi.out, <- hsp.out] at hcw
     obtain ⟨c3, c4, c5, c6, c7, cf⟩ := hcw
     by_cases hi : i < d
     ·have hI : IntKind.i64.wrap ((i : Int) + 1) = ((i + 1 : Nat) : Int) := by rw [IntWalk.i64_in _ (by omega)]; omega
      have hi2 : (i : Int) < (d : Int) := by omega
      have hb : (rep ind i).length + ind.length <= (rep ind d).length := by
       rw [rep_len, rep_len, <- Nat.succ_mul]; exact Nat.mul_le_mul_right _ hi
      replace hE := zz hE
      replace hik := zz hik
      go_wp2_with (go_at_call 56; refine (hE.out.wstr ind si hsi.out (by simp only [List.length_append]; omega)).mono ?_; rintro e w2 ⟨q, rfl, k1⟩)
      go_roundg (gk - 1)
      case measure => have := hik.out; omega
      case rel => exact ⟨i + 1, rfl, by have := hik.out; omega, by have := k1.out; rw [List.append_assoc _ (rep ind i) ind] at this; exact this⟩
     ·have hie : i = d := by omega
      subst hie
      have hi2 : ¬ (i : Int) < (i : Int) := by omega
      have k1 := (hE.put 5 (.int .i64 ((i + 1 : Nat) : Int)) ⟨i + 1, inn, true⟩ (fun _ => rfl)).put 6 (.bool true) ⟨i + 1, true, true⟩ (fun _ => rfl)
      replace k1 := zz k1
      clear hE hik hi
      go_wp2
      go_end0
      refine ⟨rfl, ?_⟩
      have := k1.out
      simp only [List.append_assoc] at this ⊢
      exact this)
theorem Ew.down0 (D : Nat) (hD : d = D + 1) (hi0 : inn = false) (hd : d <= 549755813888) (hl : o.length + (lead pre ind nl D).length <= 1099511627776) : Calls Tryz.prog 96 #[.pointer (some ⟨P, 0, none⟩), .int .i64 (-1)] w1 fun e w' => e = .returned (.tuple #[]) /\ Ew ⟨P, E, pre, ind, ⟨D, false, true⟩⟩ w0 v (o ++ lead pre ind nl D) w' := by
 subst hi0
 obtain ⟨si, hsi⟩ : ∃ si : ByteArray, si = ⟨ind.toArray⟩ := ⟨_, rfl⟩
 obtain ⟨sp, hsp⟩ : ∃ sp : ByteArray, sp = ⟨pre.toArray⟩ := ⟨_, rfl⟩
 have hcw := h.cw
 rw [<- hsi, <- hsp] at hcw
 obtain ⟨c3, c4, c5, c6, c7, cf⟩ := hcw
 have hsz : si.size = ind.length := by rw [hsi, Lib.size_eq]
 have hpz : sp.size = pre.length := by rw [hsp, Lib.size_eq]
 have hip : 0 < ind.length := List.length_pos_iff.2 hin
 have i0 : ((si.size : Int) == 0) = false := by rw [beq_eq_false_iff_ne]; omega
 have i1 : (0 : Int) < (si.size : Int) := by omega
 have i1n : 0 < si.size := by omega
 have hld : (lead pre ind nl D) = (if nl then [10] else []) ++ (pre ++ rep ind D) := rfl
 rw [hld] at hl ⊢
 have hrl := rep_len ind D
 rw [List.length_append, List.length_append] at hl
 have hn1 : (if nl then [(10 : UInt8)] else []).length <= 1 := by cases nl <;> simp
 generalize hN : (if nl then [(10 : UInt8)] else []) = N at *
 replace hsi := zz hsi
 replace hsp := zz hsp
 replace hrl := zz hrl
 have hsz' := zz hsz
 have hpz' := zz hpz
 have iD : IntKind.i64.wrap ((d : Int) - 1) = (D : Int) := by rw [IntWalk.i64_in _ (by omega)]; omega
 have h1 : Hid (Ew ⟨P, E, pre, ind, ⟨D, false, nl⟩⟩ w0 v o ((w1.setCell ⟨P, 5, none⟩ (.int .i64 D)).setCell ⟨P, 6, none⟩ (.bool false))) :=
  (h.put 5 (.int .i64 D) ⟨D, false, nl⟩ (fun _ => rfl)).put 6 (.bool false) ⟨D, false, nl⟩ (fun _ => rfl)
 clear hsz hpz hld h
 have hps : ((sp.size : Int) == 0) = true \/ ((sp.size : Int) == 0) = false := by cases ((sp.size : Int) == 0) <;> simp
 rcases hps with p0 | p0
 all_goals (
  go_enter Tryz.func96, Tryz.ntmps96
  go_upto_if 41 with fail
  clear p0
  generalize ((w1.setCell ⟨P, 5, none⟩ (.int .i64 D)).setCell ⟨P, 6, none⟩ (.bool false)) = W2 at *
  clear c3 c4 c5 c6 c7 cf
  have hcw := h1.out.cw
  rw [<- hsi.out, <- hsp.out] at hcw
  obtain ⟨c3, c4, c5, c6, c7, cf⟩ := hcw
  go_cut [] from 38 to 46 (fun wx => Ew ⟨P, E, pre, ind, ⟨D, false, true⟩⟩ w0 v (o ++ N) wx)
  case first =>
   cases nl with
   | true =>
    go_wp2_with (go_at_call 61; refine (h1.out.nl10 (by omega)).mono ?_; rintro e w2 ⟨rfl, k1⟩)
    go_meet
    case rel => rw [<- hN]; exact k1.out
   | false =>
    have k1 := h1.out.put 7 (.bool true) ⟨D, false, true⟩ (fun _ => rfl)
    replace k1 := zz k1
    go_wp2_with fail
    go_meet
    case rel => rw [<- hN]; simpa using k1.out
  case rest =>
   clear c3 c4 c5 c6 c7 cf h1
   have hcw := hcut.cw
   rw [<- hsi.out, <- hsp.out] at hcw
   obtain ⟨c3, c4, c5, c6, c7, cf⟩ := hcw
   replace hcut := zz hcut
   go_upto_if 52 with fail
   have h2 := hcut
   clear hcut
   go_cut [] from 47 to 58 (fun wx => Ew ⟨P, E, pre, ind, ⟨D, false, true⟩⟩ w0 v (o ++ N ++ pre) wx)
   case first =>
    by_cases hp : sp.size = 0
    ·have hpe : pre = [] := List.length_eq_zero_iff.1 (by have := hpz'.out; omega)
     have i2 : ¬ (0 : Int) < (sp.size : Int) := by omega
     replace hpe := zz hpe; replace hp := zz hp
     go_wp2_with fail
     go_meet
     case rel => have := h2.out; simpa [hpe.out] using this
    ·have i2 : (0 : Int) < (sp.size : Int) := by omega
     replace hp := zz hp
     go_wp2_with (go_at_call 56; refine (h2.out.wstr pre sp hsp.out (by simp only [List.length_append]; omega)).mono ?_; rintro e w2 ⟨q, rfl, k1⟩)
     go_meet
     case rel => exact k1.out
   case rest =>
    clear c3 c4 c5 c6 c7 cf h2
    have hcw := hcut.cw
    rw [<- hsi.out, <- hsp.out] at hcw
    obtain ⟨c3, c4, c5, c6, c7, cf⟩ := hcw
    replace hcut := zz hcut
    go_wp2
    go_loopg [4] D (fun k u4 wr => ∃ i : Nat, u4 = .int .i64 i /\ i + k = D /\ Ew ⟨P, E, pre, ind, ⟨D, false, true⟩⟩ w0 v (o ++ N ++ pre ++ rep ind i) wr)
    case atStart => exact ⟨0, rfl, by omega, by have := hcut.out; simpa [rep] using this⟩
    case round =>
     obtain ⟨i, rfl, hik, hE⟩ := hrel
     clear c3 c4 c5 c6 c7 cf hcut
     have hcw := hE.cw
     rw [<- hsi.out, <- hsp.out] at hcw
     obtain ⟨c3, c4, c5, c6, c7, cf⟩ := hcw
     by_cases hi : i < D
     ·have hI : IntKind.i64.wrap ((i : Int) + 1) = ((i + 1 : Nat) : Int) := by rw [IntWalk.i64_in _ (by omega)]; omega
      have hi2 : (i : Int) < (D : Int) := by omega
      have hb : (rep ind i).length + ind.length <= (rep ind D).length := by
       rw [rep_len, rep_len, <- Nat.succ_mul]; exact Nat.mul_le_mul_right _ hi
      replace hE := zz hE
      replace hik := zz hik
      go_wp2_with (go_at_call 56; refine (hE.out.wstr ind si hsi.out (by simp only [List.length_append]; omega)).mono ?_; rintro e w2 ⟨q, rfl, k1⟩)
      go_roundg (gk - 1)
      case measure => have := hik.out; omega
      case rel => exact ⟨i + 1, rfl, by have := hik.out; omega, by have := k1.out; rw [List.append_assoc _ (rep ind i) ind] at this; exact this⟩
     ·have hie : i = D := by omega
      subst hie
      have hi2 : ¬ (i : Int) < (i : Int) := by omega
      replace hE := zz hE
      clear hik hi
      go_wp2
      go_end0
      refine ⟨rfl, ?_⟩
      have := hE.out
      simp only [List.append_assoc] at this ⊢
      exact this)
theorem Ew.down1 (D : Nat) (hD : d = D + 1) (hi0 : inn = true) (hd : d <= 549755813888) : Calls Tryz.prog 96 #[.pointer (some ⟨P, 0, none⟩), .int .i64 (-1)] w1 fun e w' => e = .returned (.tuple #[]) /\ Ew ⟨P, E, pre, ind, ⟨D, false, nl⟩⟩ w0 v o w' := by
 subst hi0
 have hsz : (⟨ind.toArray⟩ : ByteArray).size = ind.length := by rw [Lib.size_eq]
 obtain ⟨c3, c4, c5, c6, c7, cf⟩ := h.cw
 generalize (⟨ind.toArray⟩ : ByteArray) = si at *
 generalize (⟨pre.toArray⟩ : ByteArray) = sp at *
 have hip : 0 < ind.length := List.length_pos_iff.2 hin
 have i0 : ((si.size : Int) == 0) = false := by rw [beq_eq_false_iff_ne]; omega
 have iD : IntKind.i64.wrap ((d : Int) - 1) = (D : Int) := by rw [IntWalk.i64_in _ (by omega)]; omega
 have k1 := (h.put 5 (.int .i64 D) ⟨D, true, nl⟩ (fun _ => rfl)).put 6 (.bool false) ⟨D, false, nl⟩ (fun _ => rfl)
 replace k1 := zz k1
 clear h hsz
 have hps : ((sp.size : Int) == 0) = true \/ ((sp.size : Int) == 0) = false := by cases ((sp.size : Int) == 0) <;> simp
 rcases hps with p0 | p0
 all_goals (
  go_enter Tryz.func96, Tryz.ntmps96
  go_wp2
  refine bodyPost_ret (results_none rfl _ _ _) rfl ?_
  exact ⟨rfl, k1.out⟩)
end
theorem Ew.up {X : Px} {w0 w1 : World} {v : Pv} {o : List UInt8} (h : Ew X w0 v o w1) (hin : X.ind ≠ []) (hd : X.iv.d <= 549755813888) (hl : o.length + (lead X.pre X.ind X.iv.nl X.iv.d).length <= 1099511627776) : Calls Tryz.prog 96 #[.pointer (some ⟨X.P, 0, none⟩), .int .i64 1] w1 fun e w' => e = .returned (.tuple #[]) /\ Ew (X.at ⟨X.iv.d + 1, true, true⟩) w0 v (o ++ lead X.pre X.ind X.iv.nl X.iv.d) w' := by
 obtain ⟨P, E, pre, ind, d, inn, nl⟩ := X
 exact Ew.up0 h hin hd hl
theorem Ew.down {X : Px} {w0 w1 : World} {v : Pv} {o : List UInt8} (h : Ew X w0 v o w1) (hin : X.ind ≠ []) (hd1 : 1 <= X.iv.d) (hd : X.iv.d <= 549755813888) (hl : o.length + (lead X.pre X.ind X.iv.nl (X.iv.d - 1)).length <= 1099511627776) : Calls Tryz.prog 96 #[.pointer (some ⟨X.P, 0, none⟩), .int .i64 (-1)] w1 fun e w' => e = .returned (.tuple #[]) /\ Ew (X.at ⟨X.iv.d - 1, false, if X.iv.inn then X.iv.nl else true⟩) w0 v (o ++ (if X.iv.inn then [] else lead X.pre X.ind X.iv.nl (X.iv.d - 1))) w' := by
 obtain ⟨P, E, pre, ind, d, inn, nl⟩ := X
 have hD : d = (d - 1) + 1 := by have h1 : 1 <= d := hd1; omega
 cases inn with
 | true =>
  refine (Ew.down1 h hin (d - 1) hD rfl hd).mono ?_
  rintro e w' ⟨rfl, k⟩
  refine ⟨rfl, ?_⟩
  simp only [if_true, List.append_nil]
  exact k
 | false =>
  refine (Ew.down0 h hin (d - 1) hD rfl hd hl).mono ?_
  rintro e w' ⟨rfl, k⟩
  refine ⟨rfl, ?_⟩
  simp only [Bool.false_eq_true, if_false]
  exact k
theorem pup (X : Px) (v : Pv) (out : List UInt8) (tags : List ByteArray) (w : World) (h : Pr X w v false out tags) (hin : X.ind ≠ []) (hd : X.iv.d <= 549755813888) (hl : out.length + (lead X.pre X.ind X.iv.nl X.iv.d).length <= 1099511627776) : Calls Tryz.prog 96 #[.pointer (some ⟨X.P, 0, none⟩), .int .i64 1] w fun e w' => e = .returned (.tuple #[]) /\ ∃ va', PSt X w v w' ⟨va', v.pv, v.tv⟩ /\ Pr (X.at ⟨X.iv.d + 1, true, true⟩) w' ⟨va', v.pv, v.tv⟩ false (out ++ lead X.pre X.ind X.iv.nl X.iv.d) tags := by
 have hE : Ew X w v out w := ⟨v.va, Fr.refl _ _, fun x h => .inl h, h.D, h.W, h.D.lt, h.nP⟩
 refine (hE.up hin hd hl).mono ?_
 rintro e w' ⟨rfl, va', f, n, D, W, hP, hPo⟩
 have hE2 : ∀ x, ¬ X.E.own v.va x -> x < w.heap.size -> ¬ X.E.own va' x := fun x h1 h2 h3 => (n x h3).elim h1 (fun h => by omega)
 have hnot : ∀ k, k ≠ X.P /\ ¬ X.E.own v.va k -> ¬ (k = X.P \/ X.E.own v.va k) := fun k hk e => e.elim hk.1 hk.2
 refine ⟨rfl, va', ⟨f.mono (fun x hx => .inl (hx.elim .inl (fun h => .inr (.inl h)))), ?_⟩, ⟨D, W, ownsRow_frame h.pf f (fun k hk => hnot k (h.np k hk)), ownsRow_frame h.tg f (fun k hk => hnot k ⟨(h.nt k hk).1, (h.nt k hk).2.1⟩), hE2 _ h.nP hP, fun k hk => ⟨(h.np k hk).1, hE2 k (h.np k hk).2 (ownsRow_lt h.pf hk)⟩, fun k hk => ⟨(h.nt k hk).1, hE2 k (h.nt k hk).2.1 (ownsRow_lt h.tg hk), (h.nt k hk).2.2⟩⟩⟩
 rintro x (hx | hx | hx | hx)
 ·exact .inl (.inl hx)
 ·exact (n x hx).imp (fun h => .inr (.inl h)) id
 ·exact .inl (.inr (.inr (.inl hx)))
 ·exact .inl (.inr (.inr (.inr hx)))
end
section
open Go.RowKit
theorem PSt.iv {X : Px} {w w' : World} {v v' : Pv} (h : PSt X w v w' v') (i : Iv) : PSt (X.at i) w v w' v' := ⟨h.fr, h.nw⟩
structure At2 (X : Px) (w : World) (v : Pv) (S : Nat -> Prop) (o : List UInt8) (tags : List ByteArray) (w1 : World) : Prop where
 ex : ∃ v', PSt X w v w1 v' /\ Pr X w1 v' false o tags /\ ∀ x, S x -> ¬ X.own v' x /\ x < w1.heap.size
theorem At2.step {X : Px} {w w1 w2 : World} {v v' : Pv} {S : Nat -> Prop} {o l : List UInt8} {tags : List ByteArray} (s : PSt X w v w1 v') (hS : ∀ x, S x -> ¬ X.own v' x /\ x < w1.heap.size) (k : Prints X w1 v' o tags l w2) : At2 X w v S (o ++ l) tags w2 /\ ∀ x, S x -> w2.heap[x]? = w1.heap[x]? := by
 obtain ⟨va', k1, k2⟩ := k
 exact ⟨⟨_, (s.trans k1).iv _, k2, fun x hx => ⟨fun hh => (k1.nw x hh).elim (hS x hx).1 (fun h => by have := (hS x hx).2; omega), Nat.lt_of_lt_of_le (hS x hx).2 k1.fr.size⟩⟩, fun x hx => k1.fr.block x (hS x hx).2 (hS x hx).1⟩
theorem At2.call {X : Px} {w w1 : World} {v : Pv} {S : Nat -> Prop} {o l : List UInt8} {tags : List ByteArray} {f : Nat} {args : Array Value} {R : Ending -> Prop} (h : At2 X w v S o tags w1)
  (hc : ∀ v', Pr X w1 v' false o tags -> PSt X w v w1 v' -> Calls Tryz.prog f args w1 fun e w2 => R e /\ Prints X w1 v' o tags l w2) :
  Calls Tryz.prog f args w1 fun e w2 => R e /\ At2 X w v S (o ++ l) tags w2 /\ ∀ x, S x -> w2.heap[x]? = w1.heap[x]? := by
 obtain ⟨v', s, p, hS⟩ := h
 refine (hc v' p s).mono ?_
 rintro e w2 ⟨h1, h2⟩
 exact ⟨h1, At2.step s hS h2⟩
theorem At2.old {X : Px} {w w1 w2 : World} {v : Pv} {S : Nat -> Prop} {o : List UInt8} {tags : List ByteArray} (h : At2 X w v S o tags w1) (f : Old w1 w2) : At2 X w v S o tags w2 := by
 obtain ⟨v', s, p, hS⟩ := h
 exact ⟨v', s.old f, p.old f, fun x hx => ⟨(hS x hx).1, Nat.lt_of_lt_of_le (hS x hx).2 f.size⟩⟩
theorem At2.aside {X : Px} {w w1 w2 : World} {v : Pv} {S S' : Nat -> Prop} {o : List UInt8} {tags : List ByteArray} (h : At2 X w v S o tags w1) (f : Old w1 w2) (hS' : ∀ x, S' x -> S x \/ w1.heap.size <= x /\ x < w2.heap.size) : At2 X w v S' o tags w2 := by
 obtain ⟨v', s, p, hS⟩ := h
 refine ⟨v', s.old f, p.old f, fun x hx => ?_⟩
 rcases hS' x hx with h | h
 ·exact ⟨(hS x h).1, Nat.lt_of_lt_of_le (hS x h).2 f.size⟩
 ·exact ⟨fun hh => by have := p.lt x hh; omega, h.2⟩
theorem At2.start {X : Px} {w : World} {v : Pv} {S : Nat -> Prop} {o : List UInt8} {tags : List ByteArray} (h : Pr X w v false o tags) (hS : ∀ x, S x -> ¬ X.own v x /\ x < w.heap.size) : At2 X w v S o tags w := ⟨v, PSt.refl X w v, h, hS⟩
section
variable {X : Px} {w w1 : World} {v : Pv} {S : Nat -> Prop} {o : List UInt8} {tags : List ByteArray} (h : At2 X w v S o tags w1)
include h
theorem At2.byte (c : UInt8) (i : Int) (hi : i = c.toNat) (hl : o.length <= 1099511627776) : Calls Tryz.prog 61 #[.pointer (some ⟨X.P, 0, none⟩), .int .u8 i] w1 fun e w2 => e = .returned .nilIface /\ At2 X w v S (o ++ [c]) tags w2 /\ ∀ x, S x -> w2.heap[x]? = w1.heap[x]? := by
 subst hi
 exact h.call (R := fun e => e = .returned .nilIface) (fun v' p _ => pbyte X v' o tags w1 p c hl)
theorem At2.str (s : ByteArray) (hl : o.length + s.size <= 1099511627776) : Calls Tryz.prog 56 #[.pointer (some ⟨X.P, 0, none⟩), .string s] w1 fun e w2 => (∃ q, e = .returned (.tuple #[q, .nilIface])) /\ At2 X w v S (o ++ s.data.toList) tags w2 /\ ∀ x, S x -> w2.heap[x]? = w1.heap[x]? :=
 h.call (R := fun e => ∃ q, e = .returned (.tuple #[q, .nilIface])) (fun v' p _ => (pstr X v' o tags w1 p s hl).mono (fun e w2 h => ⟨⟨_, h.1⟩, h.2⟩))
theorem At2.strl (l : List UInt8) (hl : o.length + l.length <= 1099511627776) : Calls Tryz.prog 56 #[.pointer (some ⟨X.P, 0, none⟩), .string ⟨l.toArray⟩] w1 fun e w2 => (∃ q, e = .returned (.tuple #[q, .nilIface])) /\ At2 X w v S (o ++ l) tags w2 /\ ∀ x, S x -> w2.heap[x]? = w1.heap[x]? :=
 h.str ⟨l.toArray⟩ (by rw [Lib.size_eq]; exact hl)
theorem At2.wr (l : List UInt8) (g f m cap : Nat) (hm : m = l.length) (hmc : m <= cap) (hL : Lies w1 g f l) (hg : S g) (hl : o.length + m <= 1099511627776) : Calls Tryz.prog 57 #[.pointer (some ⟨X.P, 0, none⟩), .slice (some ⟨g, f, none⟩) m cap] w1 fun e w2 => (∃ q, e = .returned (.tuple #[q, .nilIface])) /\ At2 X w v S (o ++ l) tags w2 /\ ∀ x, S x -> w2.heap[x]? = w1.heap[x]? := by
 obtain ⟨v', s, p, hS⟩ := h
 refine (pwrite X v' o tags w1 p l g f m cap hm hmc hL (fun hh => (hS g hg).1 (.inr (.inl hh))) (hS g hg).2 hl).mono ?_
 rintro e w2 ⟨rfl, k⟩
 exact ⟨⟨_, rfl⟩, At2.step s hS k⟩
theorem At2.up (hi : X.ind ≠ []) (hd : X.iv.d <= 549755813888) (hl : o.length + (lead X.pre X.ind X.iv.nl X.iv.d).length <= 1099511627776) : Calls Tryz.prog 96 #[.pointer (some ⟨X.P, 0, none⟩), .int .i64 1] w1 fun e w2 => e = .returned (.tuple #[]) /\ At2 (X.at ⟨X.iv.d + 1, true, true⟩) w v S (o ++ lead X.pre X.ind X.iv.nl X.iv.d) tags w2 /\ ∀ x, S x -> w2.heap[x]? = w1.heap[x]? := by
 obtain ⟨v', s, p, hS⟩ := h
 refine (pup X v' o tags w1 p hi hd hl).mono ?_
 rintro e w2 ⟨rfl, va', k1, k2⟩
 exact ⟨rfl, ⟨_, (s.trans k1).iv _, k2, fun x hx => ⟨fun hh => (k1.nw x hh).elim (hS x hx).1 (fun h => by have := (hS x hx).2; omega), Nat.lt_of_lt_of_le (hS x hx).2 k1.fr.size⟩⟩, fun x hx => k1.fr.block x (hS x hx).2 (hS x hx).1⟩
theorem At2.cached : Calls Tryz.prog 58 #[.pointer (some ⟨X.P, 0, none⟩)] w1 fun e w2 => e = .returned .nilIface /\ At2 X w v S (o ++ []) tags w2 /\ ∀ x, S x -> w2.heap[x]? = w1.heap[x]? :=
 h.call (R := fun e => e = .returned .nilIface) (fun v' p _ => pcached X v' o tags w1 p)
theorem At2.esc (rs : List Nat) (hrs : ∀ r ∈ rs, isCh r = true) (hlen : (nb rs).length <= 1000000000) (hU : UT w) (h5 : ∀ x, X.own v x -> 5 <= x) (h5w : 5 <= w.heap.size) (hl : o.length + 6 * (nb rs).length + 10 <= 1099511627776) :
  Calls Tryz.prog 97 #[.pointer (some ⟨X.P, 0, none⟩), .string ⟨(nb rs).toArray⟩] w1 fun e w2 => e = .returned (.tuple #[]) /\ At2 X w v S (o ++ escL true rs) tags w2 /\ ∀ x, S x -> w2.heap[x]? = w1.heap[x]? :=
 h.call (R := fun e => e = .returned (.tuple #[])) (fun v' p s => pescape X v' o tags rs w1 hrs hlen (hU.fr s.fr (fun h => absurd (h5 _ h) (by omega)) (fun h => absurd (h5 _ h) (by omega))) (fun x hx => (s.nw x hx).elim (h5 x) (fun h => by omega)) (by have := s.fr.size; omega) p hl)
end
end
end Go.Proofs.YtepbbahdhhjibaaGreatDoor
