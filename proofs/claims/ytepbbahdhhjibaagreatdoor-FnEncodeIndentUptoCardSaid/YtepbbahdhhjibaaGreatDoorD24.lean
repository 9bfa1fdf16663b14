/- own text -/
import Derived.Test.YtepbbahdhhjibaaGreatDoorD23
namespace Go.Proofs.YtepbbahdhhjibaaGreatDoor
set_option linter.unusedSimpArgs false
set_option linter.unusedVariables false
set_option maxHeartbeats 4000000
set_option maxRecDepth 100000
section
open Go.RowKit
abbrev cb (r : Nat) : List UInt8 := u8 r
def esc (nl : Bool) (r : Nat) : List UInt8 :=
 if r = 34 then [38, 35, 51, 52, 59] else if r = 39 then [38, 35, 51, 57, 59] else if r = 38 then [38, 97, 109, 112, 59] else if r = 60 then [38, 108, 116, 59] else if r = 62 then [38, 103, 116, 59]
 else if r = 9 then [38, 35, 120, 57, 59] else if r = 10 then (if nl then [38, 35, 120, 65, 59] else [10]) else if r = 13 then [38, 35, 120, 68, 59] else u8 r
def escL (nl : Bool) (rs : List Nat) : List UInt8 := rs.flatMap (esc nl)
theorem escL_app (nl : Bool) (a b : List Nat) : escL nl (a ++ b) = escL nl a ++ escL nl b := by simp [escL]
theorem esc_len (nl : Bool) (r : Nat) : (esc nl r).length <= 5 := by
 unfold esc
 have := (u8_len r).2
 repeat' split
 all_goals simp <;> omega
theorem nb_pos (r : Nat) : 1 <= (u8 r).length := (u8_len r).1
theorem nb_len_ge (rs : List Nat) : rs.length <= (nb rs).length := by
 induction rs with
 | nil => exact Nat.le_refl _
 | cons r rs ih => rw [nb_cons, List.length_append, List.length_cons]; have := (u8_len r).1; omega
theorem escL_len (nl : Bool) (rs : List Nat) : (escL nl rs).length <= 5 * rs.length := by
 induction rs with
 | nil => exact Nat.le_refl _
 | cons r rs ih =>
  have : escL nl (r :: rs) = esc nl r ++ escL nl rs := rfl
  rw [this, List.length_append, List.length_cons]; have := esc_len nl r; omega
theorem esc_plain (nl : Bool) {r : Nat} (h : r ≠ 34 /\ r ≠ 39 /\ r ≠ 38 /\ r ≠ 60 /\ r ≠ 62 /\ r ≠ 9 /\ r ≠ 10 /\ r ≠ 13) : esc nl r = u8 r := by
 unfold esc
 obtain ⟨h1, h2, h3, h4, h5, h6, h7, h8⟩ := h
 simp [h1, h2, h3, h4, h5, h6, h7, h8]
theorem nb_snoc (l : List Nat) (r : Nat) : (nb (l ++ [r])).length = (nb l).length + (cb r).length := by simp [nb]
theorem ext_mid (s : ByteArray) (a b : Nat) : (s.extract a b).data.toList = (s.data.toList.take b).drop a := by
 rw [ByteArray.data_extract, Array.toList_extract, List.extract_eq_take_drop, List.drop_take]
theorem pescape (X : Px) (v : Pv) (out : List UInt8) (tags : List ByteArray) (rs : List Nat) (w : World) (hrs : ∀ r ∈ rs, isCh r = true) (hlen : (nb rs).length <= 1000000000) (hU : UT w) (h5 : ∀ x, X.own v x -> 5 <= x) (h5w : 5 <= w.heap.size)
  (h : Pr X w v false out tags) (hl : out.length + 6 * (nb rs).length + 10 <= 1099511627776) :
  Calls Tryz.prog 97 #[.pointer (some ⟨X.P, 0, none⟩), .string ⟨(nb rs).toArray⟩] w fun e w' => e = .returned (.tuple #[]) /\ Prints X w v out tags (escL true rs) w' := by
 obtain ⟨s, hs⟩ : ∃ s : ByteArray, s = ⟨(nb rs).toArray⟩ := ⟨_, rfl⟩
 have hsl : s.data.toList = nb rs := by rw [hs]
 have hsz : s.size = (nb rs).length := by rw [Lib.size_eq, hsl]
 rw [<- hs]
 replace hs := zz hs
 replace h := zz h
 replace hsl := zz hsl
 obtain ⟨N, hN⟩ : ∃ N, N = (nb rs).length := ⟨_, rfl⟩
 rw [<- hN] at hsz hlen hl
 replace hN := zz hN
 go_enter Tryz.func97, Tryz.ntmps97
 go_wp2
 go_loopg [4, 5, 6] rs.length (fun m u4 u5 u6 wr => ∃ (a1 a2 b : List Nat) (es : ByteArray) (va1 : Value) (L I : Nat), u4 = .string es /\ u5 = .int .i64 L /\ u6 = .int .i64 I /\ L = (nb a1).length /\ I = (nb (a1 ++ a2)).length /\ a1 ++ a2 ++ b = rs /\ escL true a2 = nb a2 /\ m = b.length /\ PSt X w v wr ⟨va1, v.pv, v.tv⟩ /\ Pr X wr ⟨va1, v.pv, v.tv⟩ false (out ++ escL true a1) tags)
 case atStart => exact ⟨[], [], rs, _, v.va, 0, 0, rfl, rfl, rfl, rfl, rfl, rfl, rfl, rfl, PSt.refl X w v, by simp [escL]; exact h.out⟩
 case round =>
  obtain ⟨a1, a2, b, es, va1, L, I, rfl, rfl, rfl, hL, hI, hab, hpl, rfl, hS, hP⟩ := hrel
  clear h
  cases b with
  | nil =>
   rw [List.append_nil] at hab
   have hLN : (L : Int) <= (N : Int) := by have : L <= I := by (rw [hL, hI, nb_append, List.length_append]; omega)
                                           have : I = N := by rw [hI, hN.out, hab]
                                           omega
   have hIN : I = N := by rw [hI, hN.out, hab]
   have hL0 : (0 : Int) <= (L : Int) := by omega
   have hp : Calls Tryz.prog 56 #[.pointer (some ⟨X.P, 0, none⟩), .string (s.extract L N)] wr fun e w2 => ∃ q2, e = .returned (.tuple #[q2, .nilIface]) /\ Hid (Prints X w v out tags (escL true rs) w2) := by
    have e1 : (s.extract L N).data.toList = nb a2 := by
     rw [ext_mid, hsl.out, List.take_of_length_le (by rw [<- hN.out]; exact Nat.le_refl _), <- hab, nb_append, hL, List.drop_left]
    have e2 : (nb a1).length + (nb a2).length = N := by rw [hN.out, <- hab, nb_append, List.length_append]
    refine (pstr X ⟨va1, v.pv, v.tv⟩ _ tags wr hP (s.extract L N) ?_).mono ?_
    ·rw [Lib.size_eq, e1, List.length_append]
     have := escL_len true a1
     have := nb_len_ge a1
     omega
    ·rintro e w2 ⟨rfl, va2, k1, k2⟩
     refine ⟨_, rfl, va2, hS.trans k1, ?_⟩
     rw [e1, List.append_assoc, <- hpl, <- escL_app, hab] at k2
     exact k2
   replace hp := zz hp
   subst hIN
   clear hL hI hpl hab hS hP
   go_wp2_with (go_at_call 56; refine hp.out.mono ?_; rintro e w2 ⟨q2, rfl, k2⟩)
   go_end0
   exact ⟨rfl, k2.out⟩
  | cons r b =>
   obtain ⟨K, hK⟩ : ∃ K, K = (cb r).length := ⟨_, rfl⟩
   obtain ⟨I2, hI2⟩ : ∃ I2, I2 = I + K := ⟨_, rfl⟩
   have hK1 : 1 <= K /\ K <= 4 := by rw [hK]; exact u8_len r
   have hnl : N = I + K + (nb b).length := by rw [hN.out, <- hab, nb_append, nb_cons, List.length_append, List.length_append, <- hI, <- hK]; omega
   have hch := hrs r (by rw [<- hab]; simp)
   have hLI : L <= I := by rw [hL, hI, nb_append, List.length_append]; omega
   have i1 : (I : Int) < (N : Int) := by omega
   have i2 : (I : Int) <= (N : Int) := by omega
   have i3 : (L : Int) <= (I : Int) := by omega
   have i4 : (0 : Int) <= (I : Int) := by omega
   have i5 : (0 : Int) <= (L : Int) := by omega
   have i6 : IntKind.i64.wrap ((I : Int) + (K : Int)) = (I2 : Int) := by rw [IntWalk.i64_in _ (by omega)]; omega
   have i7 : IntKind.i64.wrap ((I2 : Int) - (K : Int)) = (I : Int) := by rw [IntWalk.i64_in _ (by omega)]; omega
   have hdec : Calls Tryz.prog 105 #[.string (s.extract I N)] wr fun e w' => e = .returned (.tuple #[.int .i32 r, .int .i64 K]) /\ Hid (Old wr w') := by
    have hU' : UT wr := hU.fr hS.fr (fun h => absurd (h5 _ h) (by omega)) (fun h => absurd (h5 _ h) (by omega))
    have e1 : (s.extract I N).data.toList = cb r ++ nb b := by
     rw [ext_mid, hsl.out, List.take_of_length_le (by rw [<- hN.out]; exact Nat.le_refl _), <- hab, nb_append, hI, List.drop_left]; rfl
    have := Tryz.utf8_DecodeRuneInString (s.extract I N) wr hU'
    rw [decodeGo_u8 r (isCh_ok hch) _ _ e1] at this
    refine this.mono ?_
    rintro e w' ⟨rfl, k⟩
    rw [hK]
    exact ⟨rfl, Below.toOld k⟩
   have hbd : (out ++ escL true a1).length + (nb a2).length + 5 <= 1099511627776 := by
    have e2 : (nb a1).length + (nb a2).length = I := by rw [hI, nb_append, List.length_append]
    rw [List.length_append]
    have := escL_len true a1
    have := nb_len_ge a1
    omega
   have hp1 : ∀ w1, Old wr w1 -> Calls Tryz.prog 56 #[.pointer (some ⟨X.P, 0, none⟩), .string (s.extract L I)] w1 fun e w2 => ∃ q2, e = .returned (.tuple #[q2, .nilIface]) /\ Hid (∃ va2, PSt X w v w2 ⟨va2, v.pv, v.tv⟩ /\ Pr X w2 ⟨va2, v.pv, v.tv⟩ false (out ++ escL true a1 ++ nb a2) tags) := fun w1 ho => by
    have e1 : (s.extract L I).data.toList = nb a2 := by
     rw [ext_mid, hsl.out, <- hab, nb_append, hI, List.take_left, nb_append, hL, List.drop_left]
    refine (pstr X ⟨va1, v.pv, v.tv⟩ _ tags w1 (hP.old ho) (s.extract L I) ?_).mono ?_
    ·rw [Lib.size_eq, e1]
     omega
    ·rintro e w2 ⟨rfl, va2, k1, k2⟩
     rw [e1] at k2
     exact ⟨_, rfl, va2, (hS.old ho).trans k1, k2⟩
   replace hdec := zz hdec
   replace hp1 := zz hp1
   replace hbd := zz hbd
   replace hL := zz hL
   replace hI := zz hI
   have hI2 := zz (And.intro hI2 hK)
   replace hab := zz hab
   replace hpl := zz hpl
   replace hS := zz hS
   replace hP := zz hP
   clear hnl hLI hK
   by_cases h34 : r = 34
   ·subst h34
    have hp2 : ∀ w2 va2, PSt X w v w2 ⟨va2, v.pv, v.tv⟩ /\ Pr X w2 ⟨va2, v.pv, v.tv⟩ false (out ++ escL true a1 ++ nb a2) tags -> Calls Tryz.prog 56 #[.pointer (some ⟨X.P, 0, none⟩), .string ⟨#[38, 35, 51, 52, 59]⟩] w2 fun e w3 => ∃ q3, e = .returned (.tuple #[q3, .nilIface]) /\ Hid (∃ va3, PSt X w v w3 ⟨va3, v.pv, v.tv⟩ /\ Pr X w3 ⟨va3, v.pv, v.tv⟩ false (out ++ escL true (a1 ++ a2 ++ [34])) tags) := fun w2 va2 hx => by
     refine (pstr X ⟨va2, v.pv, v.tv⟩ _ tags w2 hx.2 ⟨#[38, 35, 51, 52, 59]⟩ (by rw [List.length_append]; have : (ByteArray.mk #[38, 35, 51, 52, 59]).size = 5 := rfl; have := hbd.out; omega)).mono ?_
     rintro e w3 ⟨rfl, va3, k1, k2⟩
     refine ⟨_, rfl, va3, hx.1.trans k1, ?_⟩
     have e1 : escL true (a1 ++ a2 ++ [34]) = escL true a1 ++ nb a2 ++ [38, 35, 51, 52, 59] := by rw [escL_app, escL_app, hpl.out]; rfl
     rw [e1, <- List.append_assoc, <- List.append_assoc]
     exact k2
    replace hp2 := zz hp2
    go_wp2_with (first | (go_at_call 105; refine hdec.out.mono ?_; rintro e w1 ⟨rfl, o1⟩) | (go_at_call 56; refine (hp1.out _ o1.out).mono ?_; rintro e w2 ⟨q2, rfl, k2⟩; obtain ⟨va2, k2⟩ := k2.out; replace k2 := zz k2; clear hp1) | (go_at_call 56; refine (hp2.out _ va2 k2.out).mono ?_; rintro e w3 ⟨q3, rfl, k3⟩))
    go_roundg b.length
    case measure => exact Nat.lt_succ_self _
    case rel =>
     obtain ⟨va3, k4, k5⟩ := k3.out
     exact ⟨a1 ++ a2 ++ [34], [], b, _, va3, I2, I2, rfl, congrArg (Value.int .i64) (by have := hI2.out.1; omega), congrArg (Value.int .i64) (by have := hI2.out.1; omega), by rw [nb_snoc, <- hI.out, <- hI2.out.2]; exact hI2.out.1, by rw [List.append_nil, nb_snoc, <- hI.out, <- hI2.out.2]; exact hI2.out.1, by rw [<- hab.out]; simp, rfl, rfl, k4, k5⟩
   ·
    by_cases h39 : r = 39
    ·subst h39
     have hp2 : ∀ w2 va2, PSt X w v w2 ⟨va2, v.pv, v.tv⟩ /\ Pr X w2 ⟨va2, v.pv, v.tv⟩ false (out ++ escL true a1 ++ nb a2) tags -> Calls Tryz.prog 56 #[.pointer (some ⟨X.P, 0, none⟩), .string ⟨#[38, 35, 51, 57, 59]⟩] w2 fun e w3 => ∃ q3, e = .returned (.tuple #[q3, .nilIface]) /\ Hid (∃ va3, PSt X w v w3 ⟨va3, v.pv, v.tv⟩ /\ Pr X w3 ⟨va3, v.pv, v.tv⟩ false (out ++ escL true (a1 ++ a2 ++ [39])) tags) := fun w2 va2 hx => by
      refine (pstr X ⟨va2, v.pv, v.tv⟩ _ tags w2 hx.2 ⟨#[38, 35, 51, 57, 59]⟩ (by rw [List.length_append]; have : (ByteArray.mk #[38, 35, 51, 57, 59]).size = 5 := rfl; have := hbd.out; omega)).mono ?_
      rintro e w3 ⟨rfl, va3, k1, k2⟩
      refine ⟨_, rfl, va3, hx.1.trans k1, ?_⟩
      have e1 : escL true (a1 ++ a2 ++ [39]) = escL true a1 ++ nb a2 ++ [38, 35, 51, 57, 59] := by rw [escL_app, escL_app, hpl.out]; rfl
      rw [e1, <- List.append_assoc, <- List.append_assoc]
      exact k2
     replace hp2 := zz hp2
     go_wp2_with (first | (go_at_call 105; refine hdec.out.mono ?_; rintro e w1 ⟨rfl, o1⟩) | (go_at_call 56; refine (hp1.out _ o1.out).mono ?_; rintro e w2 ⟨q2, rfl, k2⟩; obtain ⟨va2, k2⟩ := k2.out; replace k2 := zz k2; clear hp1) | (go_at_call 56; refine (hp2.out _ va2 k2.out).mono ?_; rintro e w3 ⟨q3, rfl, k3⟩))
     go_roundg b.length
     case measure => exact Nat.lt_succ_self _
     case rel =>
      obtain ⟨va3, k4, k5⟩ := k3.out
      exact ⟨a1 ++ a2 ++ [39], [], b, _, va3, I2, I2, rfl, congrArg (Value.int .i64) (by have := hI2.out.1; omega), congrArg (Value.int .i64) (by have := hI2.out.1; omega), by rw [nb_snoc, <- hI.out, <- hI2.out.2]; exact hI2.out.1, by rw [List.append_nil, nb_snoc, <- hI.out, <- hI2.out.2]; exact hI2.out.1, by rw [<- hab.out]; simp, rfl, rfl, k4, k5⟩
    ·
     by_cases h38 : r = 38
     ·subst h38
      have hp2 : ∀ w2 va2, PSt X w v w2 ⟨va2, v.pv, v.tv⟩ /\ Pr X w2 ⟨va2, v.pv, v.tv⟩ false (out ++ escL true a1 ++ nb a2) tags -> Calls Tryz.prog 56 #[.pointer (some ⟨X.P, 0, none⟩), .string ⟨#[38, 97, 109, 112, 59]⟩] w2 fun e w3 => ∃ q3, e = .returned (.tuple #[q3, .nilIface]) /\ Hid (∃ va3, PSt X w v w3 ⟨va3, v.pv, v.tv⟩ /\ Pr X w3 ⟨va3, v.pv, v.tv⟩ false (out ++ escL true (a1 ++ a2 ++ [38])) tags) := fun w2 va2 hx => by
       refine (pstr X ⟨va2, v.pv, v.tv⟩ _ tags w2 hx.2 ⟨#[38, 97, 109, 112, 59]⟩ (by rw [List.length_append]; have : (ByteArray.mk #[38, 97, 109, 112, 59]).size = 5 := rfl; have := hbd.out; omega)).mono ?_
       rintro e w3 ⟨rfl, va3, k1, k2⟩
       refine ⟨_, rfl, va3, hx.1.trans k1, ?_⟩
       have e1 : escL true (a1 ++ a2 ++ [38]) = escL true a1 ++ nb a2 ++ [38, 97, 109, 112, 59] := by rw [escL_app, escL_app, hpl.out]; rfl
       rw [e1, <- List.append_assoc, <- List.append_assoc]
       exact k2
      replace hp2 := zz hp2
      go_wp2_with (first | (go_at_call 105; refine hdec.out.mono ?_; rintro e w1 ⟨rfl, o1⟩) | (go_at_call 56; refine (hp1.out _ o1.out).mono ?_; rintro e w2 ⟨q2, rfl, k2⟩; obtain ⟨va2, k2⟩ := k2.out; replace k2 := zz k2; clear hp1) | (go_at_call 56; refine (hp2.out _ va2 k2.out).mono ?_; rintro e w3 ⟨q3, rfl, k3⟩))
      go_roundg b.length
      case measure => exact Nat.lt_succ_self _
      case rel =>
       obtain ⟨va3, k4, k5⟩ := k3.out
       exact ⟨a1 ++ a2 ++ [38], [], b, _, va3, I2, I2, rfl, congrArg (Value.int .i64) (by have := hI2.out.1; omega), congrArg (Value.int .i64) (by have := hI2.out.1; omega), by rw [nb_snoc, <- hI.out, <- hI2.out.2]; exact hI2.out.1, by rw [List.append_nil, nb_snoc, <- hI.out, <- hI2.out.2]; exact hI2.out.1, by rw [<- hab.out]; simp, rfl, rfl, k4, k5⟩
     ·
      by_cases h60 : r = 60
      ·subst h60
       have hp2 : ∀ w2 va2, PSt X w v w2 ⟨va2, v.pv, v.tv⟩ /\ Pr X w2 ⟨va2, v.pv, v.tv⟩ false (out ++ escL true a1 ++ nb a2) tags -> Calls Tryz.prog 56 #[.pointer (some ⟨X.P, 0, none⟩), .string ⟨#[38, 108, 116, 59]⟩] w2 fun e w3 => ∃ q3, e = .returned (.tuple #[q3, .nilIface]) /\ Hid (∃ va3, PSt X w v w3 ⟨va3, v.pv, v.tv⟩ /\ Pr X w3 ⟨va3, v.pv, v.tv⟩ false (out ++ escL true (a1 ++ a2 ++ [60])) tags) := fun w2 va2 hx => by
        refine (pstr X ⟨va2, v.pv, v.tv⟩ _ tags w2 hx.2 ⟨#[38, 108, 116, 59]⟩ (by rw [List.length_append]; have : (ByteArray.mk #[38, 108, 116, 59]).size = 4 := rfl; have := hbd.out; omega)).mono ?_
        rintro e w3 ⟨rfl, va3, k1, k2⟩
        refine ⟨_, rfl, va3, hx.1.trans k1, ?_⟩
        have e1 : escL true (a1 ++ a2 ++ [60]) = escL true a1 ++ nb a2 ++ [38, 108, 116, 59] := by rw [escL_app, escL_app, hpl.out]; rfl
        rw [e1, <- List.append_assoc, <- List.append_assoc]
        exact k2
       replace hp2 := zz hp2
       go_wp2_with (first | (go_at_call 105; refine hdec.out.mono ?_; rintro e w1 ⟨rfl, o1⟩) | (go_at_call 56; refine (hp1.out _ o1.out).mono ?_; rintro e w2 ⟨q2, rfl, k2⟩; obtain ⟨va2, k2⟩ := k2.out; replace k2 := zz k2; clear hp1) | (go_at_call 56; refine (hp2.out _ va2 k2.out).mono ?_; rintro e w3 ⟨q3, rfl, k3⟩))
       go_roundg b.length
       case measure => exact Nat.lt_succ_self _
       case rel =>
        obtain ⟨va3, k4, k5⟩ := k3.out
        exact ⟨a1 ++ a2 ++ [60], [], b, _, va3, I2, I2, rfl, congrArg (Value.int .i64) (by have := hI2.out.1; omega), congrArg (Value.int .i64) (by have := hI2.out.1; omega), by rw [nb_snoc, <- hI.out, <- hI2.out.2]; exact hI2.out.1, by rw [List.append_nil, nb_snoc, <- hI.out, <- hI2.out.2]; exact hI2.out.1, by rw [<- hab.out]; simp, rfl, rfl, k4, k5⟩
      ·
       by_cases h62 : r = 62
       ·subst h62
        have hp2 : ∀ w2 va2, PSt X w v w2 ⟨va2, v.pv, v.tv⟩ /\ Pr X w2 ⟨va2, v.pv, v.tv⟩ false (out ++ escL true a1 ++ nb a2) tags -> Calls Tryz.prog 56 #[.pointer (some ⟨X.P, 0, none⟩), .string ⟨#[38, 103, 116, 59]⟩] w2 fun e w3 => ∃ q3, e = .returned (.tuple #[q3, .nilIface]) /\ Hid (∃ va3, PSt X w v w3 ⟨va3, v.pv, v.tv⟩ /\ Pr X w3 ⟨va3, v.pv, v.tv⟩ false (out ++ escL true (a1 ++ a2 ++ [62])) tags) := fun w2 va2 hx => by
         refine (pstr X ⟨va2, v.pv, v.tv⟩ _ tags w2 hx.2 ⟨#[38, 103, 116, 59]⟩ (by rw [List.length_append]; have : (ByteArray.mk #[38, 103, 116, 59]).size = 4 := rfl; have := hbd.out; omega)).mono ?_
         rintro e w3 ⟨rfl, va3, k1, k2⟩
         refine ⟨_, rfl, va3, hx.1.trans k1, ?_⟩
         have e1 : escL true (a1 ++ a2 ++ [62]) = escL true a1 ++ nb a2 ++ [38, 103, 116, 59] := by rw [escL_app, escL_app, hpl.out]; rfl
         rw [e1, <- List.append_assoc, <- List.append_assoc]
         exact k2
        replace hp2 := zz hp2
        go_wp2_with (first | (go_at_call 105; refine hdec.out.mono ?_; rintro e w1 ⟨rfl, o1⟩) | (go_at_call 56; refine (hp1.out _ o1.out).mono ?_; rintro e w2 ⟨q2, rfl, k2⟩; obtain ⟨va2, k2⟩ := k2.out; replace k2 := zz k2; clear hp1) | (go_at_call 56; refine (hp2.out _ va2 k2.out).mono ?_; rintro e w3 ⟨q3, rfl, k3⟩))
        go_roundg b.length
        case measure => exact Nat.lt_succ_self _
        case rel =>
         obtain ⟨va3, k4, k5⟩ := k3.out
         exact ⟨a1 ++ a2 ++ [62], [], b, _, va3, I2, I2, rfl, congrArg (Value.int .i64) (by have := hI2.out.1; omega), congrArg (Value.int .i64) (by have := hI2.out.1; omega), by rw [nb_snoc, <- hI.out, <- hI2.out.2]; exact hI2.out.1, by rw [List.append_nil, nb_snoc, <- hI.out, <- hI2.out.2]; exact hI2.out.1, by rw [<- hab.out]; simp, rfl, rfl, k4, k5⟩
       ·
        by_cases h9 : r = 9
        ·subst h9
         have hp2 : ∀ w2 va2, PSt X w v w2 ⟨va2, v.pv, v.tv⟩ /\ Pr X w2 ⟨va2, v.pv, v.tv⟩ false (out ++ escL true a1 ++ nb a2) tags -> Calls Tryz.prog 56 #[.pointer (some ⟨X.P, 0, none⟩), .string ⟨#[38, 35, 120, 57, 59]⟩] w2 fun e w3 => ∃ q3, e = .returned (.tuple #[q3, .nilIface]) /\ Hid (∃ va3, PSt X w v w3 ⟨va3, v.pv, v.tv⟩ /\ Pr X w3 ⟨va3, v.pv, v.tv⟩ false (out ++ escL true (a1 ++ a2 ++ [9])) tags) := fun w2 va2 hx => by
          refine (pstr X ⟨va2, v.pv, v.tv⟩ _ tags w2 hx.2 ⟨#[38, 35, 120, 57, 59]⟩ (by rw [List.length_append]; have : (ByteArray.mk #[38, 35, 120, 57, 59]).size = 5 := rfl; have := hbd.out; omega)).mono ?_
          rintro e w3 ⟨rfl, va3, k1, k2⟩
          refine ⟨_, rfl, va3, hx.1.trans k1, ?_⟩
          have e1 : escL true (a1 ++ a2 ++ [9]) = escL true a1 ++ nb a2 ++ [38, 35, 120, 57, 59] := by rw [escL_app, escL_app, hpl.out]; rfl
          rw [e1, <- List.append_assoc, <- List.append_assoc]
          exact k2
         replace hp2 := zz hp2
         go_wp2_with (first | (go_at_call 105; refine hdec.out.mono ?_; rintro e w1 ⟨rfl, o1⟩) | (go_at_call 56; refine (hp1.out _ o1.out).mono ?_; rintro e w2 ⟨q2, rfl, k2⟩; obtain ⟨va2, k2⟩ := k2.out; replace k2 := zz k2; clear hp1) | (go_at_call 56; refine (hp2.out _ va2 k2.out).mono ?_; rintro e w3 ⟨q3, rfl, k3⟩))
         go_roundg b.length
         case measure => exact Nat.lt_succ_self _
         case rel =>
          obtain ⟨va3, k4, k5⟩ := k3.out
          exact ⟨a1 ++ a2 ++ [9], [], b, _, va3, I2, I2, rfl, congrArg (Value.int .i64) (by have := hI2.out.1; omega), congrArg (Value.int .i64) (by have := hI2.out.1; omega), by rw [nb_snoc, <- hI.out, <- hI2.out.2]; exact hI2.out.1, by rw [List.append_nil, nb_snoc, <- hI.out, <- hI2.out.2]; exact hI2.out.1, by rw [<- hab.out]; simp, rfl, rfl, k4, k5⟩
        ·
         by_cases h10 : r = 10
         ·subst h10
          have hp2 : ∀ w2 va2, PSt X w v w2 ⟨va2, v.pv, v.tv⟩ /\ Pr X w2 ⟨va2, v.pv, v.tv⟩ false (out ++ escL true a1 ++ nb a2) tags -> Calls Tryz.prog 56 #[.pointer (some ⟨X.P, 0, none⟩), .string ⟨#[38, 35, 120, 65, 59]⟩] w2 fun e w3 => ∃ q3, e = .returned (.tuple #[q3, .nilIface]) /\ Hid (∃ va3, PSt X w v w3 ⟨va3, v.pv, v.tv⟩ /\ Pr X w3 ⟨va3, v.pv, v.tv⟩ false (out ++ escL true (a1 ++ a2 ++ [10])) tags) := fun w2 va2 hx => by
           refine (pstr X ⟨va2, v.pv, v.tv⟩ _ tags w2 hx.2 ⟨#[38, 35, 120, 65, 59]⟩ (by rw [List.length_append]; have : (ByteArray.mk #[38, 35, 120, 65, 59]).size = 5 := rfl; have := hbd.out; omega)).mono ?_
           rintro e w3 ⟨rfl, va3, k1, k2⟩
           refine ⟨_, rfl, va3, hx.1.trans k1, ?_⟩
           have e1 : escL true (a1 ++ a2 ++ [10]) = escL true a1 ++ nb a2 ++ [38, 35, 120, 65, 59] := by rw [escL_app, escL_app, hpl.out]; rfl
           rw [e1, <- List.append_assoc, <- List.append_assoc]
           exact k2
          replace hp2 := zz hp2
          go_wp2_with (first | (go_at_call 105; refine hdec.out.mono ?_; rintro e w1 ⟨rfl, o1⟩) | (go_at_call 56; refine (hp1.out _ o1.out).mono ?_; rintro e w2 ⟨q2, rfl, k2⟩; obtain ⟨va2, k2⟩ := k2.out; replace k2 := zz k2; clear hp1) | (go_at_call 56; refine (hp2.out _ va2 k2.out).mono ?_; rintro e w3 ⟨q3, rfl, k3⟩))
          go_roundg b.length
          case measure => exact Nat.lt_succ_self _
          case rel =>
           obtain ⟨va3, k4, k5⟩ := k3.out
           exact ⟨a1 ++ a2 ++ [10], [], b, _, va3, I2, I2, rfl, congrArg (Value.int .i64) (by have := hI2.out.1; omega), congrArg (Value.int .i64) (by have := hI2.out.1; omega), by rw [nb_snoc, <- hI.out, <- hI2.out.2]; exact hI2.out.1, by rw [List.append_nil, nb_snoc, <- hI.out, <- hI2.out.2]; exact hI2.out.1, by rw [<- hab.out]; simp, rfl, rfl, k4, k5⟩
         ·
          by_cases h13 : r = 13
          ·subst h13
           have hp2 : ∀ w2 va2, PSt X w v w2 ⟨va2, v.pv, v.tv⟩ /\ Pr X w2 ⟨va2, v.pv, v.tv⟩ false (out ++ escL true a1 ++ nb a2) tags -> Calls Tryz.prog 56 #[.pointer (some ⟨X.P, 0, none⟩), .string ⟨#[38, 35, 120, 68, 59]⟩] w2 fun e w3 => ∃ q3, e = .returned (.tuple #[q3, .nilIface]) /\ Hid (∃ va3, PSt X w v w3 ⟨va3, v.pv, v.tv⟩ /\ Pr X w3 ⟨va3, v.pv, v.tv⟩ false (out ++ escL true (a1 ++ a2 ++ [13])) tags) := fun w2 va2 hx => by
            refine (pstr X ⟨va2, v.pv, v.tv⟩ _ tags w2 hx.2 ⟨#[38, 35, 120, 68, 59]⟩ (by rw [List.length_append]; have : (ByteArray.mk #[38, 35, 120, 68, 59]).size = 5 := rfl; have := hbd.out; omega)).mono ?_
            rintro e w3 ⟨rfl, va3, k1, k2⟩
            refine ⟨_, rfl, va3, hx.1.trans k1, ?_⟩
            have e1 : escL true (a1 ++ a2 ++ [13]) = escL true a1 ++ nb a2 ++ [38, 35, 120, 68, 59] := by rw [escL_app, escL_app, hpl.out]; rfl
            rw [e1, <- List.append_assoc, <- List.append_assoc]
            exact k2
           replace hp2 := zz hp2
           go_wp2_with (first | (go_at_call 105; refine hdec.out.mono ?_; rintro e w1 ⟨rfl, o1⟩) | (go_at_call 56; refine (hp1.out _ o1.out).mono ?_; rintro e w2 ⟨q2, rfl, k2⟩; obtain ⟨va2, k2⟩ := k2.out; replace k2 := zz k2; clear hp1) | (go_at_call 56; refine (hp2.out _ va2 k2.out).mono ?_; rintro e w3 ⟨q3, rfl, k3⟩))
           go_roundg b.length
           case measure => exact Nat.lt_succ_self _
           case rel =>
            obtain ⟨va3, k4, k5⟩ := k3.out
            exact ⟨a1 ++ a2 ++ [13], [], b, _, va3, I2, I2, rfl, congrArg (Value.int .i64) (by have := hI2.out.1; omega), congrArg (Value.int .i64) (by have := hI2.out.1; omega), by rw [nb_snoc, <- hI.out, <- hI2.out.2]; exact hI2.out.1, by rw [List.append_nil, nb_snoc, <- hI.out, <- hI2.out.2]; exact hI2.out.1, by rw [<- hab.out]; simp, rfl, rfl, k4, k5⟩
          ·
           have hpe : esc true r = cb r := esc_plain true ⟨h34, h39, h38, h60, h62, h9, h10, h13⟩
           replace hpe := zz hpe
           have hin := fun w => inRange_do r hch w
           have b34 : ((r : Int) == 34) = false := by rw [beq_eq_false_iff_ne]; omega
           have b39 : ((r : Int) == 39) = false := by rw [beq_eq_false_iff_ne]; omega
           have b38 : ((r : Int) == 38) = false := by rw [beq_eq_false_iff_ne]; omega
           have b60 : ((r : Int) == 60) = false := by rw [beq_eq_false_iff_ne]; omega
           have b62 : ((r : Int) == 62) = false := by rw [beq_eq_false_iff_ne]; omega
           have b9 : ((r : Int) == 9) = false := by rw [beq_eq_false_iff_ne]; omega
           have b10 : ((r : Int) == 10) = false := by rw [beq_eq_false_iff_ne]; omega
           have b13 : ((r : Int) == 13) = false := by rw [beq_eq_false_iff_ne]; omega
           clear hp1
           clear h34 h39 h38 h60 h62 h9 h10 h13
           by_cases hff : r = 65533
           ·subst hff
            have hK3 : ((K : Int) == 1) = false := by rw [beq_eq_false_iff_ne, hI2.out.2]; decide
            go_wp2_with (first | (go_at_call 105; refine hdec.out.mono ?_; rintro e w1 ⟨rfl, o1⟩) | (go_at_call 101; refine (hin _).mono ?_; rintro e w2 ⟨rfl, rfl⟩))
            go_roundg b.length
            case measure => exact Nat.lt_succ_self _
            case rel =>
             exact ⟨a1, a2 ++ [65533], b, _, va1, L, I2, rfl, rfl, congrArg (Value.int .i64) (by have := hI2.out.1; omega), hL.out, by rw [<- List.append_assoc, nb_snoc, <- hI.out, <- hI2.out.2]; exact hI2.out.1, by rw [<- hab.out]; simp, by rw [escL_app, nb_append, hpl.out]; simp [escL, nb, hpe.out], rfl, hS.out.old o1.out, hP.out.old o1.out⟩
           ·have hffb : ((r : Int) == 65533) = false := by rw [beq_eq_false_iff_ne]; omega
            go_wp2_with (first | (go_at_call 105; refine hdec.out.mono ?_; rintro e w1 ⟨rfl, o1⟩) | (go_at_call 101; refine (hin _).mono ?_; rintro e w2 ⟨rfl, rfl⟩))
            go_roundg b.length
            case measure => exact Nat.lt_succ_self _
            case rel =>
             exact ⟨a1, a2 ++ [r], b, _, va1, L, I2, rfl, rfl, congrArg (Value.int .i64) (by have := hI2.out.1; omega), hL.out, by rw [<- List.append_assoc, nb_snoc, <- hI.out, <- hI2.out.2]; exact hI2.out.1, by rw [<- hab.out]; simp, by rw [escL_app, nb_append, hpl.out]; simp [escL, nb, hpe.out], rfl, hS.out.old o1.out, hP.out.old o1.out⟩
end
section
open Go.RowKit
theorem decRuneS (r : Nat) (hr : okR r) (t : List UInt8) (s : ByteArray) (w : World) (hu : UT w) (hs : s.data.toList = u8 r ++ t) :
  Calls Tryz.prog 105 #[.string s] w fun e w' => e = .returned (.tuple #[.int .i32 r, .int .i64 (u8 r).length]) /\ Hid (Old w w') := by
 have := Tryz.utf8_DecodeRuneInString s w hu
 rw [decodeGo_u8 r hr _ _ hs] at this
 refine this.mono ?_
 rintro e w' ⟨rfl, k⟩
 exact ⟨rfl, Below.toOld k⟩
theorem ext_from (s : ByteArray) (a : Nat) (x y : List UInt8) (h : s.data.toList = x ++ y) (ha : a = x.length) : (s.extract a s.size).data.toList = y := by
 rw [ext_mid, List.take_of_length_le (by rw [Lib.size_eq]; exact Nat.le_refl _), h, ha, List.drop_left]
theorem isNameStr_do (r : Nat) (t : List Nat) (w : World) (hr : nSt r = true) (ht : ∀ x ∈ t, nCt x = true) (hu : UT w) (hmax : (nb (r :: t)).length <= 1099511627776) :
  Calls Tryz.prog 60 #[.string ⟨(nb (r :: t)).toArray⟩] w fun e w' => e = .returned (.bool true) /\ Old w w' := by
 obtain ⟨s, hs⟩ : ∃ s : ByteArray, s = ⟨(nb (r :: t)).toArray⟩ := ⟨_, rfl⟩
 have hsl : s.data.toList = nb (r :: t) := by rw [hs]
 have hsz : s.size = (nb (r :: t)).length := by rw [Lib.size_eq, hsl]
 rw [<- hs]
 have hlen : s.size = (u8 r).length + (nb t).length := by rw [hsz, nb_cons, List.length_append]
 have h1 := (u8_len r).1
 have e0 : ((s.size : Int) == 0) = false := by rw [beq_eq_false_iff_ne]; omega
 have hr256 := nSt_lt hr
 have e1 := r_ne hr256
 have hd := decRuneS r (nCt_ok (by simp [nCt, hr])) (nb t) s w hu hsl
 have hu' := zz hu
 have ht' := zz ht
 rw [<- hsz] at hmax
 replace hsl := zz hsl
 clear hu ht hs hsz
 obtain ⟨q, hq⟩ : ∃ q, q = (u8 r).length := ⟨_, rfl⟩
 rw [<- hq] at hd hlen h1
 replace hq := zz hq
 replace hlen := zz hlen
 go_enter Tryz.func60, Tryz.ntmps60
 go_wp2_with (first | (go_at_call 105; refine hd.mono ?_; rintro e w1 ⟨rfl, k1⟩) | (go_at_call 107; refine (first_at _).mono ?_; rintro e w2 ⟨T, rfl, k2, k3⟩; have k2 := zz k2; have k3 := zz k3) | (go_at_call 106; refine (is_first T r _ hr256 k3.out).mono ?_; rintro e w3 ⟨rfl, k4⟩; rw [hr]; have k4 := zz k4))
 go_loopg [0, 3, 4] t.length (fun k s c z wr => ∃ (r : Nat) (t : List Nat) (s' : ByteArray), s = .string s' /\ z = .int .i64 (u8 r).length /\ s'.data.toList = nb (r :: t) /\ s'.size <= 1099511627776 /\ Old w wr /\ t.length = k /\ ∀ x ∈ t, nCt x = true)
 case atStart =>
  have ho := (k1.out.old k2.out).old k4.out
  exact ⟨r, t, s, rfl, by rw [hq.out], hsl.out, hmax, ho, rfl, ht'.out⟩
 case round =>
  obtain ⟨r, t, s', rfl, rfl, hL, hmx, hO, hk, hT⟩ := hrel
  clear k1 k2 k3 k4 hd hsl ht' e1 hr hr256 hmax hlen h1 e0 hq
  have hul := (u8_len r).1
  have hm : s'.size = (nb (r :: t)).length := by rw [Lib.size_eq, hL]
  cases t with
  | nil =>
   have e3 : ¬ (((u8 r).length : Int) < (s'.size : Int)) := by simp [nb] at hm; omega
   replace hO := zz hO
   clear hL hm
   go_wp2
   go_ret
   exact ⟨rfl, hO.out⟩
  | cons r2 t2 =>
   have hul2 := (u8_len r2).1
   have hm' : s'.size = (u8 r).length + ((u8 r2).length + (nb t2).length) := by rw [hm, nb_cons, nb_cons, List.length_append, List.length_append]
   have e3 : ((u8 r).length : Int) < (s'.size : Int) := by omega
   have e5 : ((u8 r).length : Int) <= (s'.size : Int) := by omega
   have hn2 := hT r2 (by simp)
   have hr2 := nCt_lt hn2
   have e4 := r_ne hr2
   have hL2 : (s'.extract (u8 r).length s'.size).data.toList = nb (r2 :: t2) := ext_from s' _ (u8 r) _ (by rw [hL, nb_cons]) rfl
   have hsz2 : (s'.extract (u8 r).length s'.size).size <= 1099511627776 := by
    have h1 : (s'.extract (u8 r).length s'.size).size = (nb (r2 :: t2)).length := by rw [Lib.size_eq, hL2]
    rw [h1, nb_cons, List.length_append]; omega
   have huw : UT wr := hu'.out.fr hO (fun h => h) (fun h => h)
   have hd := decRuneS r2 (nCt_ok hn2) (nb t2) (s'.extract (u8 r).length s'.size) wr huw hL2
   replace hO := zz hO
   replace hL2 := zz hL2
   replace hT := zz hT
   replace hk := zz hk
   replace hsz2 := zz hsz2
   clear hL huw hm
   generalize hq : (u8 r).length = q at *
   obtain ⟨q2, hq2⟩ : ∃ q2, q2 = (u8 r2).length := ⟨_, rfl⟩
   rw [<- hq2] at hd hm' hul2
   replace hq2 := zz hq2
   replace hq := zz hq
   replace hm' := zz hm'
   by_cases hs : nSt r2 = true
   ·go_wp2_with (first | (go_at_call 105; refine hd.mono ?_; rintro e w1 ⟨rfl, k1⟩) | (go_at_call 107; refine (first_at _).mono ?_; rintro e w2 ⟨T, rfl, k2, k3⟩; have k2 := zz k2; have k3 := zz k3) | (go_at_call 106; refine (is_first T r2 _ hr2 k3.out).mono ?_; rintro e w3 ⟨rfl, k4⟩; rw [hs]; have k4 := zz k4))
    go_roundg t2.length
    case measure => have hk := hk.out; simp at hk; omega
    case rel =>
     have ho := (k1.out.old k2.out).old k4.out
     exact ⟨r2, t2, _, rfl, by rw [hq2.out], hL2.out, hsz2.out, hO.out.old ho, rfl, fun x hx => hT.out x (by simp [hx])⟩
   ·have hs : nSt r2 = false := by simpa using hs
    have hs2 : nC2 r2 = true := by simpa [nCt, hs] using hn2
    go_wp2_with (first | (go_at_call 105; refine hd.mono ?_; rintro e w1 ⟨rfl, k1⟩) | (go_at_call 107; refine (first_at _).mono ?_; rintro e w2 ⟨T, rfl, k2, k3⟩; have k2 := zz k2; have k3 := zz k3) | (go_at_call 108; refine (second_at _).mono ?_; rintro e w4 ⟨T, rfl, k5, k6⟩; have k5 := zz k5; have k6 := zz k6) | (go_at_call 106; refine (is_first T r2 _ hr2 k3.out).mono ?_; rintro e w3 ⟨rfl, k4⟩; rw [hs]; have k4 := zz k4; clear k3) | (go_at_call 106; refine (is_second T r2 _ hr2 k6.out).mono ?_; rintro e w5 ⟨rfl, k7⟩; rw [hs2]; have k7 := zz k7))
    go_roundg t2.length
    case measure => have hk := hk.out; simp at hk; omega
    case rel =>
     have ho := (((k1.out.old k2.out).old k4.out).old k5.out).old k7.out
     exact ⟨r2, t2, _, rfl, by rw [hq2.out], hL2.out, hsz2.out, hO.out.old ho, rfl, fun x hx => hT.out x (by simp [hx])⟩
theorem Lies.drewN {w : World} {b o : Nat} {l : List UInt8} (h : Lies w b o l) (n : Nat) : Lies (w.drewN n) b o l := h.old ((Fr.refl _ w).drewN n)
theorem Lies.conv {w : World} {g o : Nat} {d : List UInt8} (h : Lies w g o d) (n cap : Nat) (hn : n = d.length) : (convert 56 9 (.slice (some ⟨g, o, none⟩) n cap)).run Tryz.prog w = .ok (.string ⟨d.toArray⟩) w := by
 subst hn
 refine run_convert_bytes_back w 56 9 5 ⟨g, o, none⟩ cap d Tryz.underlying56 Tryz.underlying5 Tryz.underlying9 ?_
 intro j hj
 rw [Lib.addr_add]
 exact h j _ (List.getElem?_eq_getElem hj)
theorem Lies.sub {w : World} {g o : Nat} {d : List UInt8} (h : Lies w g o d) (i m : Nat) : Lies w g (o + i) ((d.drop i).take m) := by
 intro j c hj
 rw [List.getElem?_take] at hj
 split at hj
 ·rw [List.getElem?_drop] at hj
  rw [Nat.add_assoc]; exact h _ _ hj
 ·cases hj
theorem bcontains_do (d pat : List UInt8) (g o n cap h q m : Nat) (w : World) (hn : n = d.length) (hm : m = pat.length) (hcap : n <= cap) (hmax : n <= 1099511627776) (hm1 : 1 <= m /\ m <= 10) (hL : Lies w g o d) (hP : Lies w h q pat)
  (hno : ∀ i, i + m <= n -> ((d.drop i).take m == pat) = false) :
  Calls Tryz.prog 54 #[.slice (some ⟨g, o, none⟩) n cap, .slice (some ⟨h, q, none⟩) m m] w fun e w' => e = .returned (.bool false) /\ ∃ j, w' = w.drewN j := by
 have h102 : Calls Tryz.prog 102 #[.slice (some ⟨g, o, none⟩) n cap, .slice (some ⟨h, q, none⟩) m m] w fun e w' => e = .returned (.int .i64 (-1)) /\ ∃ j, w' = w.drewN j := by
  replace hL := zz hL
  replace hP := zz hP
  replace hno := zz hno
  replace hn := zz hn
  replace hm := zz hm
  obtain ⟨K, hK⟩ : ∃ K, K = n + 1 := ⟨_, rfl⟩
  replace hK := zz hK
  go_enter Tryz.func102, Tryz.ntmps102
  go_wp2
  go_loopg [5] K (fun k u wr => ∃ i j : Nat, u = .int .i64 i /\ i + k = K /\ wr = w.drewN j)
  case atStart => exact ⟨0, 0, rfl, by omega, rfl⟩
  case round =>
   obtain ⟨i, j, rfl, hik, rfl⟩ := hrel
   have hK' := hK.out
   have i1 : IntKind.i64.wrap ((i : Int) + (m : Int)) = ((i + m : Nat) : Int) := by rw [IntWalk.i64_in _ (by omega)]; omega
   clear hK'
   by_cases hle : i + m <= n
   ·have i2 : ((i + m : Nat) : Int) <= (n : Int) := by omega
    have i4 : (0 : Int) <= (i : Int) := by omega
    have i5 : (i : Int) <= ((i + m : Nat) : Int) := by omega
    have i6 : ((i + m : Nat) : Int) <= (cap : Int) := by omega
    have hK' := hK.out
    have i3 : IntKind.i64.wrap ((i : Int) + 1) = ((i + 1 : Nat) : Int) := by rw [IntWalk.i64_in _ (by omega)]; omega
    have hc1 : ∀ k c2, (convert 56 9 (.slice (some ⟨g, o + i, none⟩) m c2)).run Tryz.prog (w.drewN k) = .ok (.string ⟨((d.drop i).take m).toArray⟩) (w.drewN k) := fun k c2 => ((hL.out.sub i m).drewN k).conv m c2 (by have := hn.out; simp; omega)
    have hc2 : ∀ k c2, (convert 56 9 (.slice (some ⟨h, q, none⟩) m c2)).run Tryz.prog (w.drewN k) = .ok (.string ⟨pat.toArray⟩) (w.drewN k) := fun k c2 => (hP.out.drewN k).conv m c2 hm.out
    have hb := hno.out i hle
    clear hK'
    replace hik := zz hik
    obtain ⟨M, hM⟩ : ∃ M, M = i + m := ⟨_, rfl⟩
    rw [<- hM] at i1 i2 i5 i6
    have i7 : ((M : Int) - (i : Int)).toNat = m := by omega
    have i8 : M - i = m := by omega
    have i9 : ¬ (cap = i) := by omega
    replace hM := zz hM
    clear hle
    go_wp2
    go_quiet (fail)
    go_wp2
    go_roundg (K - (i + 1))
    case measure => have := hik.out; have := hK.out; omega
    case rel => exact ⟨i + 1, _, rfl, by have := hik.out; have := hK.out; omega, rfl⟩
   ·have i2 : ¬ ((i + m : Nat) : Int) <= (n : Int) := by omega
    obtain ⟨M, hM⟩ : ∃ M, M = i + m := ⟨_, rfl⟩
    rw [<- hM] at i1 i2
    replace hM := zz hM
    clear hle hik
    go_wp2
    go_ret
    exact ⟨rfl, _, rfl⟩
 clear hn hm hcap hmax hm1 hL hP hno
 go_enter Tryz.func54, Tryz.ntmps54
 go_wp2_with (go_at_call 102; refine h102.mono ?_; rintro e w1 ⟨rfl, k⟩)
 go_ret
 exact ⟨rfl, k⟩
end
end Go.Proofs.YtepbbahdhhjibaaGreatDoor
