/- own text -/
import Derived.Deep.LoopGhost
import Derived.Test.YtepbbahdhhjibaaGreatDoorD08
import Derived.Test.YtepbbahdhhjibaaGreatDoorD09
import Derived.Test.YtepbbahdhhjibaaGreatDoorD10
import Derived.Test.YtepbbahdhhjibaaGreatDoorD11
namespace Go.Proofs.YtepbbahdhhjibaaGreatDoor
set_option linter.unusedSimpArgs false
set_option linter.unusedVariables false
set_option maxHeartbeats 8000000
set_option maxRecDepth 1000000
section
open Go.RowKit
theorem text_cd_by (E : Dx) (p : Pa) (v1 : Value) (dn : List UInt8) (tl : List UInt8) (l : List El) (c : UInt8) (g60 : ((c.toNat : Int) == 60) = false) (g38 : ((c.toNat : Int) == 38) = false) (c0 c1 : UInt8) (u : Nat -> Value) (wr : World) (K : Act -> World -> Prop) (Q0 : Exit -> Act -> World -> Prop)
  (hlo : elsOk [] true false c0 c1 (.by c :: l)) (hD : Dec E wr p v1 dn true false (srcs (.by c :: l) ++ tl)) (hl : dn.length + (srcs (.by c :: l)).length <= 1099511627000)
  (hK : ∀ (t' : Array Value) (w' : World) (v' : Value), FrT E.D (.int .i64 (-1)) (.bool true) (El.next c1 (.by c)).1 (El.next c1 (.by c)).2 t' -> Dec E w' p v' (dn ++ El.out c1 (.by c)) true false (srcs l ++ tl) -> St E wr v1 w' v' -> K ⟨t', []⟩ w') :
  body113.wp Tryz.prog (Exit.then K Q0) ⟨((List.range 381).map (gT E.D (.int .i64 (-1)) (.bool true) c0 c1 u)).toArray, []⟩ wr := by
 cases x0 : ((c0.toNat : Int) == 93)
 case' true => cases x1 : ((c1.toNat : Int) == 93)
 all_goals
  rw [gT_lit]
  replace hK := zz hK
  conv => arg 2; whnf
  obtain ⟨⟨hq, hno⟩, hlo⟩ := hlo
  have hdn : dn.length <= 1099511627776 := by omega
  rw [srcs_cons, List.append_assoc] at hD
  have hg := (getc_cons E p v1 dn true c (srcs l ++ tl) wr hD).mono (R' := fun e w' => e = .returned (.tuple #[.int .u8 c.toNat, .bool true]) /\ Hid (Dec E w' p v1 dn false false (srcs l ++ tl) /\ Fr E.rd wr w')) (fun _ _ h => h)
  try have x2 : ((c.toNat : Int) == 62) = false := by rw [beq_iff_eq] at x0 x1; rw [beq_eq_false_iff_ne]; intro x2; exact hno ⟨rfl, UInt8.toNat_inj.1 (by show _ = 93; omega), UInt8.toNat_inj.1 (by show _ = 93; omega), UInt8.toNat_inj.1 (by show _ = 62; omega)⟩
  clear hD hq hno hlo
  have hwc : ∀ w1, Dec E w1 p v1 dn false false (srcs l ++ tl) -> Calls Tryz.prog 119 #[.pointer (some ⟨E.D, 7, none⟩), .int .u8 c.toNat] w1 fun e w' => e = .returned .nilIface /\ ∃ v', Dec E w' p v' (dn ++ [c]) false false (srcs l ++ tl) /\ St E w1 v1 w' v' := fun w1 hd => wbyte E p v1 dn _ false false c w1 hd hdn
  have hw10 : ∀ w1, Dec E w1 p v1 dn false false (srcs l ++ tl) -> Calls Tryz.prog 119 #[.pointer (some ⟨E.D, 7, none⟩), .int .u8 10] w1 fun e w' => e = .returned .nilIface /\ ∃ v', Dec E w' p v' (dn ++ [10]) false false (srcs l ++ tl) /\ St E w1 v1 w' v' := fun w1 hd => wbyte E p v1 dn _ false false 10 w1 hd hdn
  replace hwc := zz hwc
  replace hw10 := zz hw10
  cases y0 : ((c.toNat : Int) == 13) with
  | true =>
   go_wp2_with (first | (go_at_call 111; refine hg.mono ?_; rintro e w1 ⟨rfl, k2⟩) | (go_at_call 119; refine (hw10.out w1 k2.out.1).mono ?_; rintro e w2 ⟨rfl, k3⟩; replace k3 := zz k3))
   obtain ⟨v2, d2, s2⟩ := k3.out
   have e : El.out c1 (.by c) = [10] := by exact if_pos (show c = 13 from u8_eq (n := 13) y0)
   exact hK.out _ _ v2 ⟨rfl, rfl, rfl, rfl, rfl, rfl, rfl, rfl⟩ (by rw [e]; exact d2.up) ((St.rd v1 k2.out.2).trans s2)
  | false =>
   cases y1 : ((c1.toNat : Int) == 13) with
   | false =>
    go_wp2_with (first | (go_at_call 111; refine hg.mono ?_; rintro e w1 ⟨rfl, k2⟩) | (go_at_call 119; refine (hwc.out w1 k2.out.1).mono ?_; rintro e w2 ⟨rfl, k3⟩; replace k3 := zz k3))
    obtain ⟨v2, d2, s2⟩ := k3.out
    have e : El.out c1 (.by c) = [c] := by exact (if_neg (show ¬ c = 13 from u8_neq (n := 13) y0)).trans (if_neg (fun h => (show ¬ c1 = 13 from u8_neq (n := 13) y1) h.1))
    exact hK.out _ _ v2 ⟨rfl, rfl, rfl, rfl, rfl, rfl, rfl, rfl⟩ (by rw [e]; exact d2.up) ((St.rd v1 k2.out.2).trans s2)
   | true =>
    cases y2 : ((c.toNat : Int) == 10) with
    | false =>
     go_wp2_with (first | (go_at_call 111; refine hg.mono ?_; rintro e w1 ⟨rfl, k2⟩) | (go_at_call 119; refine (hwc.out w1 k2.out.1).mono ?_; rintro e w2 ⟨rfl, k3⟩; replace k3 := zz k3))
     obtain ⟨v2, d2, s2⟩ := k3.out
     have e : El.out c1 (.by c) = [c] := by exact (if_neg (show ¬ c = 13 from u8_neq (n := 13) y0)).trans (if_neg (fun h => (show ¬ c = 10 from u8_neq (n := 10) y2) h.2))
     exact hK.out _ _ v2 ⟨rfl, rfl, rfl, rfl, rfl, rfl, rfl, rfl⟩ (by rw [e]; exact d2.up) ((St.rd v1 k2.out.2).trans s2)
    | true =>
     go_wp2_with (first | (go_at_call 111; refine hg.mono ?_; rintro e w1 ⟨rfl, k2⟩) | (go_at_call 119; refine (hwc.out w1 k2.out.1).mono ?_; rintro e w2 ⟨rfl, k3⟩; replace k3 := zz k3))
     have e : El.out c1 (.by c) = [] := by exact (if_neg (show ¬ c = 13 from u8_neq (n := 13) y0)).trans (if_pos ⟨show c1 = 13 from u8_eq (n := 13) y1, show c = 10 from u8_eq (n := 10) y2⟩)
     exact hK.out _ _ v1 ⟨rfl, rfl, rfl, rfl, rfl, rfl, rfl, rfl⟩ (by rw [e, List.append_nil]; exact k2.out.1.up) (St.rd v1 k2.out.2)
end
section
open Go.RowKit
theorem text_cd_byL (b : UInt8) (B : Int) (hb : b = 38 /\ B = 38 \/ b = 60 /\ B = 60) (E : Dx) (p : Pa) (v1 : Value) (dn : List UInt8) (tl : List UInt8) (l : List El) (c0 c1 : UInt8) (u : Nat -> Value) (wr : World) (K : Act -> World -> Prop) (Q0 : Exit -> Act -> World -> Prop)
  (hlo : elsOk [] true false c0 c1 (.by b :: l)) (hD : Dec E wr p v1 dn true false (srcs (.by b :: l) ++ tl)) (hl : dn.length + (srcs (.by b :: l)).length <= 1099511627000)
  (hK : ∀ (t' : Array Value) (w' : World) (v' : Value), FrT E.D (.int .i64 (-1)) (.bool true) (El.next c1 (.by b)).1 (El.next c1 (.by b)).2 t' -> Dec E w' p v' (dn ++ El.out c1 (.by b)) true false (srcs l ++ tl) -> St E wr v1 w' v' -> K ⟨t', []⟩ w') :
  body113.wp Tryz.prog (Exit.then K Q0) ⟨((List.range 381).map (gT E.D (.int .i64 (-1)) (.bool true) c0 c1 u)).toArray, []⟩ wr := by
 rw [gT_lit]
 replace hK := zz hK
 conv => arg 2; whnf
 obtain ⟨⟨hq, hno⟩, hlo⟩ := hlo
 have hdn : dn.length <= 1099511627776 := by omega
 rw [srcs_cons, List.append_assoc] at hD
 have hbt : (b.toNat : Int) = B := by rcases hb with ⟨rfl, rfl⟩ | ⟨rfl, rfl⟩ <;> rfl
 have hg := (getc_cons E p v1 dn true b (srcs l ++ tl) wr hD).mono (R' := fun e w' => e = .returned (.tuple #[.int .u8 b.toNat, .bool true]) /\ Hid (Dec E w' p v1 dn false false (srcs l ++ tl) /\ Fr E.rd wr w')) (fun _ _ h => h)
 rw [hbt] at hg
 have hwc : ∀ w1, Dec E w1 p v1 dn false false (srcs l ++ tl) -> Calls Tryz.prog 119 #[.pointer (some ⟨E.D, 7, none⟩), .int .u8 b.toNat] w1 fun e w' => e = .returned .nilIface /\ ∃ v', Dec E w' p v' (dn ++ [b]) false false (srcs l ++ tl) /\ St E w1 v1 w' v' := fun w1 hd => wbyte E p v1 dn _ false false b w1 hd hdn
 rw [hbt] at hwc
 have he : El.out c1 (.by b) = [b] := (if_neg (show ¬ b = 13 by rcases hb with ⟨rfl, _⟩ | ⟨rfl, _⟩ <;> decide)).trans (if_neg (show ¬ (c1 = 13 /\ b = 10) from fun h => by rcases hb with ⟨rfl, _⟩ | ⟨rfl, _⟩ <;> exact absurd h.2 (by decide)))
 replace hwc := zz hwc
 clear hD hq hno hlo
 clear hbt
 rcases hb with ⟨rfl, rfl⟩ | ⟨rfl, rfl⟩
 all_goals cases x0 : ((c0.toNat : Int) == 93)
 case' inl.true => cases x1 : ((c1.toNat : Int) == 93)
 case' inr.true => cases x1 : ((c1.toNat : Int) == 93)
 all_goals
  cases y1 : ((c1.toNat : Int) == 13) with
  | false =>
   go_wp2_with (first | (go_at_call 111; refine hg.mono ?_; rintro e w1 ⟨rfl, k2⟩) | (go_at_call 119; refine (hwc.out w1 k2.out.1).mono ?_; rintro e w2 ⟨rfl, k3⟩; replace k3 := zz k3))
   obtain ⟨v2, d2, s2⟩ := k3.out
   exact hK.out _ _ v2 ⟨rfl, rfl, rfl, rfl, rfl, rfl, rfl, rfl⟩ (by rw [he]; exact d2.up) ((St.rd v1 k2.out.2).trans s2)
  | true =>
   go_wp2_with (first | (go_at_call 111; refine hg.mono ?_; rintro e w1 ⟨rfl, k2⟩) | (go_at_call 119; refine (hwc.out w1 k2.out.1).mono ?_; rintro e w2 ⟨rfl, k3⟩; replace k3 := zz k3))
   obtain ⟨v2, d2, s2⟩ := k3.out
   exact hK.out _ _ v2 ⟨rfl, rfl, rfl, rfl, rfl, rfl, rfl, rfl⟩ (by rw [he]; exact d2.up) ((St.rd v1 k2.out.2).trans s2)
end
section
open Go.RowKit
theorem text_end_lt (E : Dx) (p : Pa) (v1 : Value) (dn : List UInt8) (tl : List UInt8) (c0 c1 : UInt8) (u : Nat -> Value) (wr : World) (K : Act -> World -> Prop) (Q0 : Exit -> Act -> World -> Prop)
  (hD : Dec E wr p v1 dn true false (60 :: tl))
  (hQ : ∀ (t' : Array Value) (w' : World), FrE E.D 0 t' -> Dec E w' p v1 dn true false (60 :: tl) -> Fr E.rd wr w' -> Q0 (.exit 0) ⟨t', []⟩ w') :
  body113.wp Tryz.prog (Exit.then K Q0) ⟨((List.range 381).map (gT E.D (.int .i64 (-1)) (.bool false) c0 c1 u)).toArray, []⟩ wr := by
 rw [gT_lit]
 replace hQ := zz hQ
 conv => arg 2; whnf
 have hg := (getc_cons E p v1 dn true 60 tl wr hD).mono (R' := fun e w' => e = .returned (.tuple #[.int .u8 60, .bool true]) /\ Hid (Dec E w' p v1 dn false false tl /\ Fr E.rd wr w')) (fun _ _ h => h)
 have hun : ∀ w4, Dec E w4 p v1 dn false false tl -> Calls Tryz.prog 112 #[.pointer (some ⟨E.D, 0, none⟩), .int .u8 60] w4 fun e w' => e = .returned (.tuple #[]) /\ Hid (Dec E w' p v1 dn true false (60 :: tl) /\ Fr E.rd w4 w') := fun w4 hd => ungetc_do' E p v1 _ 60 _ w4 hd
 replace hun := zz hun
 clear hD
 cases x0 : ((c0.toNat : Int) == 93) with
 | false =>
  go_wp2_with (first | (go_at_call 111; refine hg.mono ?_; rintro e w1 ⟨rfl, k1⟩) | (go_at_call 112; refine (hun.out w1 k1.out.1).mono ?_; rintro e w5 ⟨rfl, k5⟩))
  exact hQ.out _ _ ⟨rfl, rfl, rfl, rfl⟩ k5.out.1 (k1.out.2.trans k5.out.2 (fun x hx => Or.inl hx))
 | true =>
  cases x1 : ((c1.toNat : Int) == 93) with
  | false =>
   go_wp2_with (first | (go_at_call 111; refine hg.mono ?_; rintro e w1 ⟨rfl, k1⟩) | (go_at_call 112; refine (hun.out w1 k1.out.1).mono ?_; rintro e w5 ⟨rfl, k5⟩))
   exact hQ.out _ _ ⟨rfl, rfl, rfl, rfl⟩ k5.out.1 (k1.out.2.trans k5.out.2 (fun x hx => Or.inl hx))
  | true =>
   go_wp2_with (first | (go_at_call 111; refine hg.mono ?_; rintro e w1 ⟨rfl, k1⟩) | (go_at_call 112; refine (hun.out w1 k1.out.1).mono ?_; rintro e w5 ⟨rfl, k5⟩))
   exact hQ.out _ _ ⟨rfl, rfl, rfl, rfl⟩ k5.out.1 (k1.out.2.trans k5.out.2 (fun x hx => Or.inl hx))
end
section
open Go.RowKit
theorem text_end_eof (E : Dx) (p : Pa) (v1 : Value) (dn : List UInt8) (c0 c1 : UInt8) (u : Nat -> Value) (wr : World) (K : Act -> World -> Prop) (Q0 : Exit -> Act -> World -> Prop)
  (hD : Dec E wr p v1 dn true false ([]))
  (hQ : ∀ (t' : Array Value) (w' : World), FrE E.D 0 t' -> Dec E w' p v1 dn true true ([]) -> Fr E.rd wr w' -> Q0 (.exit 0) ⟨t', []⟩ w') :
  body113.wp Tryz.prog (Exit.then K Q0) ⟨((List.range 381).map (gT E.D (.int .i64 (-1)) (.bool false) c0 c1 u)).toArray, []⟩ wr := by
 rw [gT_lit]
 replace hQ := zz hQ
 conv => arg 2; whnf
 have hg := (getc_nil E p v1 dn true wr hD).mono (R' := fun e w' => e = .returned (.tuple #[.int .u8 0, .bool false]) /\ Hid (Dec E w' p v1 dn false true [] /\ Fr E.rd wr w')) (fun _ _ h => h)
 clear hD
 go_wp2_with (first | (go_at_call 111; refine hg.mono ?_; rintro e w1 ⟨rfl, k1⟩))
 exact hQ.out _ _ ⟨rfl, rfl, rfl, rfl⟩ k1.out.1.up k1.out.2
end
section
open Go.RowKit
theorem text_end_q34 (E : Dx) (p : Pa) (v1 : Value) (dn : List UInt8) (tl : List UInt8) (c0 c1 : UInt8) (u : Nat -> Value) (wr : World) (K : Act -> World -> Prop) (Q0 : Exit -> Act -> World -> Prop)
  (hD : Dec E wr p v1 dn true false (34 :: tl))
  (hQ : ∀ (t' : Array Value) (w' : World), FrE E.D 0 t' -> Dec E w' p v1 dn true false (tl) -> Fr E.rd wr w' -> Q0 (.exit 0) ⟨t', []⟩ w') :
  body113.wp Tryz.prog (Exit.then K Q0) ⟨((List.range 381).map (gT E.D (.int .i64 34) (.bool false) c0 c1 u)).toArray, []⟩ wr := by
 rw [gT_lit]
 replace hQ := zz hQ
 conv => arg 2; whnf
 have hg := (getc_cons E p v1 dn true 34 tl wr hD).mono (R' := fun e w' => e = .returned (.tuple #[.int .u8 34, .bool true]) /\ Hid (Dec E w' p v1 dn false false tl /\ Fr E.rd wr w')) (fun _ _ h => h)
 clear hD
 go_wp2_with (first | (go_at_call 111; refine hg.mono ?_; rintro e w1 ⟨rfl, k1⟩))
 exact hQ.out _ _ ⟨rfl, rfl, rfl, rfl⟩ k1.out.1.up k1.out.2
end
section
open Go.RowKit
theorem text_end_q39 (E : Dx) (p : Pa) (v1 : Value) (dn : List UInt8) (tl : List UInt8) (c0 c1 : UInt8) (u : Nat -> Value) (wr : World) (K : Act -> World -> Prop) (Q0 : Exit -> Act -> World -> Prop)
  (hD : Dec E wr p v1 dn true false (39 :: tl))
  (hQ : ∀ (t' : Array Value) (w' : World), FrE E.D 0 t' -> Dec E w' p v1 dn true false (tl) -> Fr E.rd wr w' -> Q0 (.exit 0) ⟨t', []⟩ w') :
  body113.wp Tryz.prog (Exit.then K Q0) ⟨((List.range 381).map (gT E.D (.int .i64 39) (.bool false) c0 c1 u)).toArray, []⟩ wr := by
 rw [gT_lit]
 replace hQ := zz hQ
 conv => arg 2; whnf
 have hg := (getc_cons E p v1 dn true 39 tl wr hD).mono (R' := fun e w' => e = .returned (.tuple #[.int .u8 39, .bool true]) /\ Hid (Dec E w' p v1 dn false false tl /\ Fr E.rd wr w')) (fun _ _ h => h)
 clear hD
 go_wp2_with (first | (go_at_call 111; refine hg.mono ?_; rintro e w1 ⟨rfl, k1⟩))
 exact hQ.out _ _ ⟨rfl, rfl, rfl, rfl⟩ k1.out.1.up k1.out.2
end
section
open Go.RowKit
theorem text_end_cd (E : Dx) (p : Pa) (v1 : Value) (dn : List UInt8) (tl : List UInt8) (u : Nat -> Value) (wr : World) (K : Act -> World -> Prop) (Q0 : Exit -> Act -> World -> Prop)
  (hD : Dec E wr p v1 dn true false (62 :: tl))
  (hQ : ∀ (t' : Array Value) (w' : World), FrE E.D 2 t' -> Dec E w' p v1 dn true false (tl) -> Fr E.rd wr w' -> Q0 (.exit 0) ⟨t', []⟩ w') :
  body113.wp Tryz.prog (Exit.then K Q0) ⟨#[.pointer (some ⟨E.D, 0, none⟩), .int .i64 (-1), .bool true, u 3, u 4, u 5, .slice none 0 0, .int .u8 93, .int .u8 93, .int .i64 0, u 10, u 11, u 12, u 13, u 14, u 15, u 16, u 17, u 18, u 19, u 20, u 21, u 22, u 23, u 24, u 25, u 26, u 27, u 28, u 29, u 30, u 31, u 32, u 33, u 34, u 35, u 36, u 37, u 38, u 39, u 40, u 41, u 42, u 43, u 44, u 45, u 46, u 47, u 48, u 49, u 50, u 51, u 52, u 53, u 54, u 55, u 56, u 57, u 58, u 59, u 60, u 61, u 62, u 63, u 64, u 65, u 66, u 67, u 68, u 69, u 70, u 71, u 72, u 73, u 74, u 75, u 76, u 77, u 78, u 79, u 80, u 81, u 82, u 83, u 84, u 85, u 86, u 87, u 88, u 89, u 90, u 91, u 92, u 93, u 94, u 95, u 96, u 97, u 98, u 99, u 100, u 101, u 102, u 103, u 104, u 105, u 106, u 107, u 108, u 109, u 110, u 111, u 112, u 113, u 114, u 115, u 116, u 117, u 118, u 119, u 120, u 121, u 122, u 123, u 124, u 125, u 126, u 127, u 128, u 129, u 130, u 131, u 132, u 133, u 134, u 135, u 136, u 137, u 138, u 139, u 140, u 141, u 142, u 143, u 144, u 145, u 146, u 147, u 148, u 149, u 150, u 151, u 152, u 153, u 154, u 155, u 156, u 157, u 158, u 159, u 160, u 161, u 162, u 163, u 164, u 165, u 166, u 167, u 168, u 169, u 170, u 171, u 172, u 173, u 174, u 175, u 176, u 177, u 178, u 179, u 180, u 181, u 182, u 183, u 184, u 185, u 186, u 187, u 188, u 189, u 190, u 191, u 192, u 193, u 194, u 195, u 196, u 197, u 198, u 199, u 200, u 201, u 202, u 203, u 204, u 205, u 206, u 207, u 208, u 209, u 210, u 211, u 212, u 213, u 214, u 215, u 216, u 217, u 218, u 219, u 220, u 221, u 222, u 223, u 224, u 225, u 226, u 227, u 228, u 229, u 230, u 231, u 232, u 233, u 234, u 235, u 236, u 237, u 238, u 239, u 240, u 241, u 242, u 243, u 244, u 245, u 246, u 247, u 248, u 249, u 250, u 251, u 252, u 253, u 254, u 255, u 256, u 257, u 258, u 259, u 260, u 261, u 262, u 263, u 264, u 265, u 266, u 267, u 268, u 269, u 270, u 271, u 272, u 273, u 274, u 275, u 276, u 277, u 278, u 279, u 280, u 281, u 282, u 283, u 284, u 285, u 286, u 287, u 288, u 289, u 290, u 291, u 292, u 293, u 294, u 295, u 296, u 297, u 298, u 299, u 300, u 301, u 302, u 303, u 304, u 305, u 306, u 307, u 308, u 309, u 310, u 311, u 312, u 313, u 314, u 315, u 316, u 317, u 318, u 319, u 320, u 321, u 322, u 323, u 324, u 325, u 326, u 327, u 328, u 329, u 330, u 331, u 332, u 333, u 334, u 335, u 336, u 337, u 338, u 339, u 340, u 341, u 342, u 343, u 344, u 345, u 346, u 347, u 348, u 349, u 350, u 351, u 352, u 353, u 354, u 355, u 356, u 357, u 358, u 359, u 360, u 361, u 362, u 363, u 364, u 365, u 366, u 367, u 368, u 369, u 370, u 371, u 372, u 373, u 374, u 375, u 376, u 377, u 378, u 379, u 380], []⟩ wr := by
 replace hQ := zz hQ
 conv => arg 2; whnf
 have hg := (getc_cons E p v1 dn true 62 tl wr hD).mono (R' := fun e w' => e = .returned (.tuple #[.int .u8 62, .bool true]) /\ Hid (Dec E w' p v1 dn false false tl /\ Fr E.rd wr w')) (fun _ _ h => h)
 clear hD
 go_wp2_with (first | (go_at_call 111; refine hg.mono ?_; rintro e w1 ⟨rfl, k1⟩))
 exact hQ.out _ _ ⟨rfl, rfl, rfl, rfl⟩ k1.out.1.up k1.out.2
end
section
open Go.RowKit
theorem arr_range (t : Array Value) (n : Nat) (g : Nat -> Value) (hs : t.size = n) (h : ∀ k, k < n -> t[k]? = some (g k)) : t = ((List.range n).map g).toArray := by
 apply Array.ext_getElem?
 intro i
 simp only [List.getElem?_toArray, List.getElem?_map]
 by_cases hi : i < n
 ·rw [h i hi, List.getElem?_range hi]; rfl
 ·rw [Array.getElem?_eq_none (by omega), List.getElem?_eq_none (by simp; omega)]; rfl
theorem FrT.eq {D : Nat} {Q cd : Value} {c0 c1 : UInt8} {t : Array Value} (h : FrT D Q cd c0 c1 t) : t = ((List.range 381).map (gT D Q cd c0 c1 (fun k => t.getD k (.bool false)))).toArray := by
 apply arr_range t 381 _ h.size
 intro k hk
 have hd : t[k]? = some (t.getD k (.bool false)) := by
  have hk2 : k < t.size := by rw [h.size]; exact hk
  simp [hk2]
 unfold gT
 split
 ·exact h.s0
 ·exact h.s1
 ·exact h.s2
 ·exact h.s6
 ·exact h.s7
 ·exact h.s8
 ·exact h.s9
 ·exact hd
def Arm (E : Dx) (p : Pa) (Q cd : Value) (q : List UInt8) (chk refs : Bool) (tl : List UInt8) (e : El) : Prop :=
 ∀ (v1 : Value) (dn : List UInt8) (l : List El) (c0 c1 : UInt8) (t : Array Value) (wr : World) (K : Act -> World -> Prop) (Q0 : Exit -> Act -> World -> Prop),
  FrT E.D Q cd c0 c1 t -> elsOk q chk refs c0 c1 (e :: l) -> Dec E wr p v1 dn true false (srcs (e :: l) ++ tl) -> dn.length + (srcs (e :: l)).length <= 1099511627000 ->
  (∀ (t' : Array Value) (w' : World) (v' : Value), FrT E.D Q cd (El.next c1 e).1 (El.next c1 e).2 t' -> Dec E w' p v' (dn ++ El.out c1 e) true false (srcs l ++ tl) -> St E wr v1 w' v' -> K ⟨t', []⟩ w') ->
  body113.wp Tryz.prog (Exit.then K Q0) ⟨t, []⟩ wr
theorem arm_tx (E : Dx) (p : Pa) (tl : List UInt8) (e : El) : Arm E p (.int .i64 (-1)) (.bool false) [60, 38] true true tl e := by
 intro v1 dn l c0 c1 t wr K Q0 ht hlo hD hl hK
 rw [ht.eq]
 cases e with
 | «by» c => exact text_m_by _ _ _ tmx E p v1 dn tl l c c0 c1 (fun k => t.getD k (.bool false)) wr K Q0 hlo hD hl hK
 | num hex ds =>
  cases hex with
  | false => exact text_m_dec _ _ _ tmx E p v1 dn tl l ds c0 c1 (fun k => t.getD k (.bool false)) wr K Q0 hlo hD hl hK
  | true => exact text_m_hex _ _ _ tmx E p v1 dn tl l ds c0 c1 (fun k => t.getD k (.bool false)) wr K Q0 hlo hD hl hK
 | nam s r => exact text_m_nam _ _ _ tmx E p v1 dn tl l s r c0 c1 (fun k => t.getD k (.bool false)) wr K Q0 hlo hD hl hK
theorem arm_q34 (E : Dx) (p : Pa) (tl : List UInt8) (e : El) : Arm E p (.int .i64 34) (.bool false) [60, 38, 34] false true tl e := by
 intro v1 dn l c0 c1 t wr K Q0 ht hlo hD hl hK
 rw [ht.eq]
 cases e with
 | «by» c => exact text_m_by _ _ _ tm34 E p v1 dn tl l c c0 c1 (fun k => t.getD k (.bool false)) wr K Q0 hlo hD hl hK
 | num hex ds =>
  cases hex with
  | false => exact text_m_dec _ _ _ tm34 E p v1 dn tl l ds c0 c1 (fun k => t.getD k (.bool false)) wr K Q0 hlo hD hl hK
  | true => exact text_m_hex _ _ _ tm34 E p v1 dn tl l ds c0 c1 (fun k => t.getD k (.bool false)) wr K Q0 hlo hD hl hK
 | nam s r => exact text_m_nam _ _ _ tm34 E p v1 dn tl l s r c0 c1 (fun k => t.getD k (.bool false)) wr K Q0 hlo hD hl hK
theorem arm_q39 (E : Dx) (p : Pa) (tl : List UInt8) (e : El) : Arm E p (.int .i64 39) (.bool false) [60, 38, 39] false true tl e := by
 intro v1 dn l c0 c1 t wr K Q0 ht hlo hD hl hK
 rw [ht.eq]
 cases e with
 | «by» c => exact text_m_by _ _ _ tm39 E p v1 dn tl l c c0 c1 (fun k => t.getD k (.bool false)) wr K Q0 hlo hD hl hK
 | num hex ds =>
  cases hex with
  | false => exact text_m_dec _ _ _ tm39 E p v1 dn tl l ds c0 c1 (fun k => t.getD k (.bool false)) wr K Q0 hlo hD hl hK
  | true => exact text_m_hex _ _ _ tm39 E p v1 dn tl l ds c0 c1 (fun k => t.getD k (.bool false)) wr K Q0 hlo hD hl hK
 | nam s r => exact text_m_nam _ _ _ tm39 E p v1 dn tl l s r c0 c1 (fun k => t.getD k (.bool false)) wr K Q0 hlo hD hl hK
theorem arm_cd (E : Dx) (p : Pa) (tl : List UInt8) (e : El) : Arm E p (.int .i64 (-1)) (.bool true) [] true false tl e := by
 intro v1 dn l c0 c1 t wr K Q0 ht hlo hD hl hK
 rw [ht.eq]
 cases e with
 | «by» c =>
  by_cases h60 : c = 60
  ·subst h60; exact text_cd_byL 60 60 (.inr ⟨rfl, rfl⟩) E p v1 dn tl l c0 c1 (fun k => t.getD k (.bool false)) wr K Q0 hlo hD hl hK
  ·by_cases h38 : c = 38
   ·subst h38; exact text_cd_byL 38 38 (.inl ⟨rfl, rfl⟩) E p v1 dn tl l c0 c1 (fun k => t.getD k (.bool false)) wr K Q0 hlo hD hl hK
   ·exact text_cd_by E p v1 dn tl l c (u8_ne (n := 60) (by decide) (by rw [beq_eq_false_iff_ne]; exact h60)) (u8_ne (n := 38) (by decide) (by rw [beq_eq_false_iff_ne]; exact h38)) c0 c1 (fun k => t.getD k (.bool false)) wr K Q0 hlo hD hl hK
 | num hex ds => exact absurd hlo.1.1 (by decide)
 | nam s r => exact absurd hlo.1.1 (by decide)
theorem El.out_le {q : List UInt8} {chk refs : Bool} {c0 c1 : UInt8} {e : El} (h : e.ok q chk refs c0 c1) : (El.out c1 e).length <= e.src.length := by
 cases e with
 | «by» c => simp only [El.out, El.src]; split; simp; split; simp; simp
 | num hex ds =>
  have h2 : ds ≠ [] := h.2.1
  have := u8_len (numFrom (El.base hex) 0 ds)
  have : 0 < ds.length := by cases ds with | nil => exact absurd rfl h2 | cons a b => simp
  simp only [El.out, El.src, List.length_cons, List.length_append]
  simp; omega
 | nam s r =>
  obtain ⟨hr, _, hs, _⟩ := ents_ok h.2
  have := u8_len r
  have h1 : (u8 r).length = 1 := by unfold u8; simp [hr]
  simp only [El.out, El.src, List.length_cons, List.length_append]
  simp; omega
theorem text_loop (E : Dx) (p : Pa) (Q cd : Value) (q : List UInt8) (chk refs : Bool) (tl tl2 : List UInt8) (eo : Bool) (n : Int) (cE : UInt8 × UInt8 -> Prop) (harm : ∀ e, Arm E p Q cd q chk refs tl e)
  (hend : ∀ (v1 : Value) (dn : List UInt8) (c0 c1 : UInt8) (t : Array Value) (wr : World) (K : Act -> World -> Prop) (Q0 : Exit -> Act -> World -> Prop), FrT E.D Q cd c0 c1 t -> cE (c0, c1) -> Dec E wr p v1 dn true false tl ->
   (∀ (t' : Array Value) (w' : World), FrE E.D n t' -> Dec E w' p v1 dn true eo tl2 -> Fr E.rd wr w' -> Q0 (.exit 0) ⟨t', []⟩ w') -> body113.wp Tryz.prog (Exit.then K Q0) ⟨t, []⟩ wr)
  (l : List El) (v0 : Value) (t : Array Value) (w : World) (Q0 : Exit -> Act -> World -> Prop) (ht : FrT E.D Q cd 0 0 t) (hlo : elsOk q chk refs 0 0 l) (hE : cE (elsEnd 0 0 l)) (hD : Dec E w p v0 [] true false (srcs l ++ tl)) (hl : (srcs l).length <= 1099511627000)
  (hQ : ∀ (t' : Array Value) (w' : World) (v' : Value), FrE E.D n t' -> Dec E w' p v' (elsOut 0 l) true eo tl2 -> St E w v0 w' v' -> (l = [] -> v' = v0) -> Q0 (.exit 0) ⟨t', []⟩ w') :
  (Code.loop body113).wp Tryz.prog Q0 ⟨t, []⟩ w := by
 refine wp_loop_ghost_k (fun k a w' => a.defers = [] /\ ∃ (c0 c1 : UInt8) (dn : List UInt8) (v : Value) (l' : List El), l'.length = k /\ FrT E.D Q cd c0 c1 a.tmps /\ elsOk q chk refs c0 c1 l' /\ cE (elsEnd c0 c1 l') /\ Dec E w' p v dn true false (srcs l' ++ tl) /\
  dn ++ elsOut c1 l' = elsOut 0 l /\ St E w v0 w' v /\ dn.length + (srcs l').length <= 1099511627000 /\ l'.length <= l.length /\ (l'.length = l.length -> v = v0)) l.length ?_ ?_
 ·exact ⟨rfl, 0, 0, [], v0, l, rfl, ht, hlo, hE, hD, rfl, St.refl E w v0, by simpa using hl, Nat.le_refl _, fun _ => rfl⟩
 ·rintro k ⟨t1, d1⟩ w1 ⟨hd, c0, c1, dn, v, l', hk, ht1, hlo1, hE1, hD1, hdn, hS, hl1, hle, hv0⟩ J K hJ hK
  have hd' : d1 = [] := hd
  subst hd'
  cases l' with
  | nil =>
   refine hend v dn c0 c1 t1 w1 K Q0 ht1 hE1 hD1 ?_
   intro t' w' ht' hD' hF'
   have e : dn = elsOut 0 l := by simpa [elsOut] using hdn
   rw [e] at hD'
   exact hQ t' w' v ht' hD' (hS.andRd hF') (fun hl0 => hv0 (by rw [hl0]))
  | cons e l' =>
   refine harm e v dn l' c0 c1 t1 w1 K Q0 ht1 hlo1 hD1 hl1 ?_
   intro t' w' v' ht' hD' hS'
   refine hK _ _ (Handed.intro l'.length (by rw [<- hk]; simp) (hJ _ _ _ ?_))
   refine ⟨rfl, _, _, dn ++ El.out c1 e, v', l', rfl, ht', hlo1.2, hE1, hD', ?_, hS.trans hS', ?_, by simp at hle; omega, fun h0 => absurd h0 (by simp at hle; omega)⟩
   ·rw [List.append_assoc]; exact hdn
   ·have := El.out_le hlo1.1
    rw [srcs_cons, List.length_append] at hl1
    rw [List.length_append]; omega
theorem text_loop_lt (E : Dx) (p : Pa) (tl : List UInt8) (l : List El) (v0 : Value) (t : Array Value) (w : World) (Q0 : Exit -> Act -> World -> Prop) (ht : FrT E.D (.int .i64 (-1)) (.bool false) 0 0 t) (hlo : elsOk [60, 38] true true 0 0 l) (hD : Dec E w p v0 [] true false (srcs l ++ 60 :: tl)) (hl : (srcs l).length <= 1099511627000)
  (hQ : ∀ (t' : Array Value) (w' : World) (v' : Value), FrE E.D 0 t' -> Dec E w' p v' (elsOut 0 l) true false (60 :: tl) -> St E w v0 w' v' -> (l = [] -> v' = v0) -> Q0 (.exit 0) ⟨t', []⟩ w') :
  (Code.loop body113).wp Tryz.prog Q0 ⟨t, []⟩ w := by
 refine text_loop E p (.int .i64 (-1)) (.bool false) [60, 38] true true (60 :: tl) (60 :: tl) false 0 (fun _ => True) (arm_tx E p _) ?_ l v0 t w Q0 ht hlo trivial hD hl hQ
 intro v1 dn c0 c1 t wr K Q0 ht hE hD hQ
 skip
 rw [ht.eq]
 exact text_end_lt E p v1 dn tl c0 c1 (fun k => t.getD k (.bool false)) wr K Q0 hD hQ
theorem text_loop_eof (E : Dx) (p : Pa) (l : List El) (v0 : Value) (t : Array Value) (w : World) (Q0 : Exit -> Act -> World -> Prop) (ht : FrT E.D (.int .i64 (-1)) (.bool false) 0 0 t) (hlo : elsOk [60, 38] true true 0 0 l) (hD : Dec E w p v0 [] true false (srcs l ++ [])) (hl : (srcs l).length <= 1099511627000)
  (hQ : ∀ (t' : Array Value) (w' : World) (v' : Value), FrE E.D 0 t' -> Dec E w' p v' (elsOut 0 l) true true ([]) -> St E w v0 w' v' -> (l = [] -> v' = v0) -> Q0 (.exit 0) ⟨t', []⟩ w') :
  (Code.loop body113).wp Tryz.prog Q0 ⟨t, []⟩ w := by
 refine text_loop E p (.int .i64 (-1)) (.bool false) [60, 38] true true ([]) ([]) true 0 (fun _ => True) (arm_tx E p _) ?_ l v0 t w Q0 ht hlo trivial hD hl hQ
 intro v1 dn c0 c1 t wr K Q0 ht hE hD hQ
 skip
 rw [ht.eq]
 exact text_end_eof E p v1 dn c0 c1 (fun k => t.getD k (.bool false)) wr K Q0 hD hQ
theorem text_loop_q34 (E : Dx) (p : Pa) (tl : List UInt8) (l : List El) (v0 : Value) (t : Array Value) (w : World) (Q0 : Exit -> Act -> World -> Prop) (ht : FrT E.D (.int .i64 34) (.bool false) 0 0 t) (hlo : elsOk [60, 38, 34] false true 0 0 l) (hD : Dec E w p v0 [] true false (srcs l ++ 34 :: tl)) (hl : (srcs l).length <= 1099511627000)
  (hQ : ∀ (t' : Array Value) (w' : World) (v' : Value), FrE E.D 0 t' -> Dec E w' p v' (elsOut 0 l) true false (tl) -> St E w v0 w' v' -> (l = [] -> v' = v0) -> Q0 (.exit 0) ⟨t', []⟩ w') :
  (Code.loop body113).wp Tryz.prog Q0 ⟨t, []⟩ w := by
 refine text_loop E p (.int .i64 34) (.bool false) [60, 38, 34] false true (34 :: tl) (tl) false 0 (fun _ => True) (arm_q34 E p _) ?_ l v0 t w Q0 ht hlo trivial hD hl hQ
 intro v1 dn c0 c1 t wr K Q0 ht hE hD hQ
 skip
 rw [ht.eq]
 exact text_end_q34 E p v1 dn tl c0 c1 (fun k => t.getD k (.bool false)) wr K Q0 hD hQ
theorem text_loop_q39 (E : Dx) (p : Pa) (tl : List UInt8) (l : List El) (v0 : Value) (t : Array Value) (w : World) (Q0 : Exit -> Act -> World -> Prop) (ht : FrT E.D (.int .i64 39) (.bool false) 0 0 t) (hlo : elsOk [60, 38, 39] false true 0 0 l) (hD : Dec E w p v0 [] true false (srcs l ++ 39 :: tl)) (hl : (srcs l).length <= 1099511627000)
  (hQ : ∀ (t' : Array Value) (w' : World) (v' : Value), FrE E.D 0 t' -> Dec E w' p v' (elsOut 0 l) true false (tl) -> St E w v0 w' v' -> (l = [] -> v' = v0) -> Q0 (.exit 0) ⟨t', []⟩ w') :
  (Code.loop body113).wp Tryz.prog Q0 ⟨t, []⟩ w := by
 refine text_loop E p (.int .i64 39) (.bool false) [60, 38, 39] false true (39 :: tl) (tl) false 0 (fun _ => True) (arm_q39 E p _) ?_ l v0 t w Q0 ht hlo trivial hD hl hQ
 intro v1 dn c0 c1 t wr K Q0 ht hE hD hQ
 skip
 rw [ht.eq]
 exact text_end_q39 E p v1 dn tl c0 c1 (fun k => t.getD k (.bool false)) wr K Q0 hD hQ
theorem text_loop_cd (E : Dx) (p : Pa) (tl : List UInt8) (l : List El) (v0 : Value) (t : Array Value) (w : World) (Q0 : Exit -> Act -> World -> Prop) (ht : FrT E.D (.int .i64 (-1)) (.bool true) 0 0 t) (hlo : elsOk [] true false 0 0 l) (hE : elsEnd 0 0 l = (93, 93)) (hD : Dec E w p v0 [] true false (srcs l ++ 62 :: tl)) (hl : (srcs l).length <= 1099511627000)
  (hQ : ∀ (t' : Array Value) (w' : World) (v' : Value), FrE E.D 2 t' -> Dec E w' p v' (elsOut 0 l) true false (tl) -> St E w v0 w' v' -> (l = [] -> v' = v0) -> Q0 (.exit 0) ⟨t', []⟩ w') :
  (Code.loop body113).wp Tryz.prog Q0 ⟨t, []⟩ w := by
 refine text_loop E p (.int .i64 (-1)) (.bool true) [] true false (62 :: tl) (tl) false 2 (fun c => c = (93, 93)) (arm_cd E p _) ?_ l v0 t w Q0 ht hlo hE hD hl hQ
 intro v1 dn c0 c1 t wr K Q0 ht hE hD hQ
 cases hE
 rw [ht.eq, gT_lit]
 exact text_end_cd E p v1 dn tl (fun k => t.getD k (.bool false)) wr K Q0 hD hQ
end
end Go.Proofs.YtepbbahdhhjibaaGreatDoor
