/- own text -/
import Derived.Test.YtepbbahdhhjibaaGreatDoorD07
namespace Go.Proofs.YtepbbahdhhjibaaGreatDoor
set_option linter.unusedSimpArgs false
set_option linter.unusedVariables false
set_option maxHeartbeats 40000000
set_option maxRecDepth 1000000
open Go.RowKit
theorem text_m_by (qs : List UInt8) (fl : Bool) (Q : Int) (hm : TM qs fl Q) (E : Dx) (p : Pa) (v1 : Value) (dn : List UInt8) (tl : List UInt8) (l : List El) (c : UInt8) (c0 c1 : UInt8) (u : Nat -> Value) (wr : World) (K : Act -> World -> Prop) (Q0 : Exit -> Act -> World -> Prop)
  (hlo : elsOk qs fl true c0 c1 (.by c :: l)) (hD : Dec E wr p v1 dn true false (srcs (.by c :: l) ++ tl)) (hl : dn.length + (srcs (.by c :: l)).length <= 1099511627000)
  (hK : ∀ (t' : Array Value) (w' : World) (v' : Value), FrT E.D (.int .i64 Q) (.bool false) (El.next c1 (.by c)).1 (El.next c1 (.by c)).2 t' -> Dec E w' p v' (dn ++ El.out c1 (.by c)) true false (srcs l ++ tl) -> St E wr v1 w' v' -> K ⟨t', []⟩ w') :
  body113.wp Tryz.prog (Exit.then K Q0) ⟨((List.range 381).map (gT E.D (.int .i64 Q) (.bool false) c0 c1 u)).toArray, []⟩ wr := by
 rcases hm with ⟨rfl, rfl, rfl⟩ | ⟨rfl, rfl, rfl⟩ | ⟨rfl, rfl, rfl⟩
 case' inl => cases x0 : ((c0.toNat : Int) == 93)
 case' inl.true => cases x1 : ((c1.toNat : Int) == 93)
 all_goals
  rw [gT_lit]
  replace hK := zz hK
  conv => arg 2; whnf
  obtain ⟨⟨hq, hno⟩, hlo⟩ := hlo
  have hdn : dn.length <= 1099511627776 := by omega
  rw [srcs_cons, List.append_assoc] at hD
  have hg := (getc_cons E p v1 dn true c (srcs l ++ tl) wr hD).mono (R' := fun e w' => e = .returned (.tuple #[.int .u8 c.toNat, .bool true]) /\ Hid (Dec E w' p v1 dn false false (srcs l ++ tl) /\ Fr E.rd wr w')) (fun _ _ h => h)
  have g60 : ((c.toNat : Int) == 60) = false := u8_ne (n := 60) (by decide) (by rw [beq_eq_false_iff_ne]; intro e; exact hq (by rw [e]; decide))
  have g38 : ((c.toNat : Int) == 38) = false := u8_ne (n := 38) (by decide) (by rw [beq_eq_false_iff_ne]; intro e; exact hq (by rw [e]; decide))
  try have g34 : ((c.toNat : Int) == 34) = false := u8_ne (n := 34) (by decide) (by rw [beq_eq_false_iff_ne]; intro e; exact hq (by rw [e]; decide))
  try have g39 : ((c.toNat : Int) == 39) = false := u8_ne (n := 39) (by decide) (by rw [beq_eq_false_iff_ne]; intro e; exact hq (by rw [e]; decide))
  try have x2 : ((c.toNat : Int) == 62) = false := by rw [beq_iff_eq] at x0 x1; rw [beq_eq_false_iff_ne]; intro x2; exact hno ⟨rfl, UInt8.toNat_inj.1 (by show _ = 93; omega), UInt8.toNat_inj.1 (by show _ = 93; omega), UInt8.toNat_inj.1 (by show _ = 62; omega)⟩
  clear hD hq hno hlo
  have hwc : ∀ w1, Dec E w1 p v1 dn false false (srcs l ++ tl) -> Calls Tryz.prog 119 #[.pointer (some ⟨E.D, 7, none⟩), .int .u8 c.toNat] w1 fun e w' => e = .returned .nilIface /\ ∃ v', Dec E w' p v' (dn ++ [c]) false false (srcs l ++ tl) /\ St E w1 v1 w' v' := fun w1 hd => wbyte E p v1 dn _ false false c w1 hd hdn
  have hw10 : ∀ w1, Dec E w1 p v1 dn false false (srcs l ++ tl) -> Calls Tryz.prog 119 #[.pointer (some ⟨E.D, 7, none⟩), .int .u8 10] w1 fun e w' => e = .returned .nilIface /\ ∃ v', Dec E w' p v' (dn ++ [10]) false false (srcs l ++ tl) /\ St E w1 v1 w' v' := fun w1 hd => wbyte E p v1 dn _ false false 10 w1 hd hdn
  replace hwc := zz hwc
  replace hw10 := zz hw10
  cases y0 : ((c.toNat : Int) == 13) with
  | true =>
   go_wp2_with (first | (go_at_call 111; refine hg.mono ?_; rintro e w1 ⟨rfl, k2⟩) | (go_at_call 119; refine (hw10.out w1 k2.out.1).mono ?_; rintro e w2 ⟨rfl, k3⟩; replace k3 := zz k3))
   obtain ⟨v2, d2, s2⟩ := k3.out
   have e : El.out c1 (.by c) = [10] := by exact if_pos (show c = 13 from u8_eq (n := 13) y0)
   exact hK.out _ _ v2 ⟨rfl, rfl, rfl, rfl, rfl, rfl, rfl, rfl⟩ (by rw [e]; exact d2.up) ((St.rd v1 k2.out.2).trans s2)
  | false =>
   cases y1 : ((c1.toNat : Int) == 13) with
   | false =>
    go_wp2_with (first | (go_at_call 111; refine hg.mono ?_; rintro e w1 ⟨rfl, k2⟩) | (go_at_call 119; refine (hwc.out w1 k2.out.1).mono ?_; rintro e w2 ⟨rfl, k3⟩; replace k3 := zz k3))
    obtain ⟨v2, d2, s2⟩ := k3.out
    have e : El.out c1 (.by c) = [c] := by exact (if_neg (show ¬ c = 13 from u8_neq (n := 13) y0)).trans (if_neg (fun h => (show ¬ c1 = 13 from u8_neq (n := 13) y1) h.1))
    exact hK.out _ _ v2 ⟨rfl, rfl, rfl, rfl, rfl, rfl, rfl, rfl⟩ (by rw [e]; exact d2.up) ((St.rd v1 k2.out.2).trans s2)
   | true =>
    cases y2 : ((c.toNat : Int) == 10) with
    | false =>
     go_wp2_with (first | (go_at_call 111; refine hg.mono ?_; rintro e w1 ⟨rfl, k2⟩) | (go_at_call 119; refine (hwc.out w1 k2.out.1).mono ?_; rintro e w2 ⟨rfl, k3⟩; replace k3 := zz k3))
     obtain ⟨v2, d2, s2⟩ := k3.out
     have e : El.out c1 (.by c) = [c] := by exact (if_neg (show ¬ c = 13 from u8_neq (n := 13) y0)).trans (if_neg (fun h => (show ¬ c = 10 from u8_neq (n := 10) y2) h.2))
     exact hK.out _ _ v2 ⟨rfl, rfl, rfl, rfl, rfl, rfl, rfl, rfl⟩ (by rw [e]; exact d2.up) ((St.rd v1 k2.out.2).trans s2)
    | true =>
     go_wp2_with (first | (go_at_call 111; refine hg.mono ?_; rintro e w1 ⟨rfl, k2⟩) | (go_at_call 119; refine (hwc.out w1 k2.out.1).mono ?_; rintro e w2 ⟨rfl, k3⟩; replace k3 := zz k3))
     have e : El.out c1 (.by c) = [] := by exact (if_neg (show ¬ c = 13 from u8_neq (n := 13) y0)).trans (if_pos ⟨show c1 = 13 from u8_eq (n := 13) y1, show c = 10 from u8_eq (n := 10) y2⟩)
     exact hK.out _ _ v1 ⟨rfl, rfl, rfl, rfl, rfl, rfl, rfl, rfl⟩ (by rw [e, List.append_nil]; exact k2.out.1.up) (St.rd v1 k2.out.2)
end Go.Proofs.YtepbbahdhhjibaaGreatDoor
