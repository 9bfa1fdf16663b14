/- own text -/
import Derived.Laws.BitsLemmas
import Derived.Lib.IndexBytes
import Derived.Lib.SmallJoins
import Derived.Deep.LoopGhost
import Derived.Test.YtepbbahdhhjibaaGreatDoorD06
namespace Go.Proofs.YtepbbahdhhjibaaGreatDoor
set_option linter.unusedSimpArgs false
set_option linter.unusedVariables false
set_option maxHeartbeats 2000000
set_option maxRecDepth 100000
set_option linter.unusedSectionVars false
section
open Go.RowKit
def Drw (w w' : World) : Prop := ∃ n, w' = w.drewN n
theorem Drw.refl (w : World) : Drw w w := ⟨0, rfl⟩
theorem Drw.old {w w' : World} (h : Drw w w') : Old w w' := by obtain ⟨n, rfl⟩ := h; exact (Fr.refl _ w).drewN n
theorem drewN_add (w : World) (a b : Nat) : (w.drewN a).drewN b = w.drewN (a + b) := by simp [World.drewN, Nat.add_assoc]
theorem Drw.quiet {w : World} {n : Nat} {w' : World} (h : Drw (w.drewN n) w') : ∃ m, w' = w.drewN m := by
 obtain ⟨m, rfl⟩ := h
 exact ⟨n + m, drewN_add w n m⟩
theorem quietly {P : Program} {f : Nat} {args : Array Value} {v : Value} {w : World} (h : ∀ n, Calls P f args (w.drewN n) fun e w' => e = .returned v /\ Drw (w.drewN n) w') (n : Nat) : Calls P f args (w.drewN n) fun e w' => e = .returned v /\ ∃ m, w' = w.drewN m :=
 (h n).mono fun e w' k => ⟨k.1, k.2.quiet⟩
theorem spSpace_do (b : UInt8) (w : World) : Calls Tryz.prog 28 #[.int .u8 b.toNat] w fun e w' => e = .returned (.bool (isWs b)) /\ Drw w w' := by
 have h : isWs b = decide (b.toNat = 32 \/ b.toNat = 9 \/ b.toNat = 10 \/ b.toNat = 13) := by
  unfold isWs
  rw [Bool.eq_iff_iff]
  simp only [Bool.or_eq_true, beq_iff_eq, decide_eq_true_eq, <- UInt8.toNat_inj]
  simp only [show (32 : UInt8).toNat = 32 from rfl, show (13 : UInt8).toNat = 13 from rfl, show (10 : UInt8).toNat = 10 from rfl, show (9 : UInt8).toNat = 9 from rfl]
  omega
 rw [h]
 generalize b.toNat = n
 go_enter Tryz.func28, Tryz.ntmps28
 go_wp2
 all_goals (
  go_ret
  refine ⟨congrArg (fun b => Ending.returned (.bool b)) ?_, Drw.refl _⟩
  rw [Bool.eq_iff_iff]
  simp
  try omega)
theorem spBegins_do (r : Nat) (w : World) : Calls Tryz.prog 87 #[.int .i64 r] w fun e w' => e = .returned (.bool (nSt r)) /\ Drw w w' := by
 unfold nSt
 go_enter Tryz.func87, Tryz.ntmps87
 go_wp2
 all_goals (
  go_ret
  refine ⟨congrArg (fun b => Ending.returned (.bool b)) ?_, Drw.refl _⟩
  rw [Bool.eq_iff_iff]
  simp
  try omega)
theorem spCont_do (r : Nat) (w : World) : Calls Tryz.prog 86 #[.int .i64 r] w fun e w' => e = .returned (.bool (nCt r)) /\ Drw w w' := by
 have h87 := spBegins_do r w
 unfold nCt nC2
 cases hb : nSt r
 all_goals (
  rw [hb] at h87
  clear hb
  go_enter Tryz.func86, Tryz.ntmps86
  go_wp2_with (go_at_call 87; refine h87.mono ?_; rintro e w1 ⟨rfl, ⟨n, rfl⟩⟩)
  all_goals (
   go_ret
   refine ⟨congrArg (fun b => Ending.returned (.bool b)) ?_, ⟨n, rfl⟩⟩
   first
    | rfl
    | (rw [Bool.eq_iff_iff]
       simp
       try omega)))
def chI (r : Int) : Bool := decide (r = 9 \/ r = 10 \/ r = 13 \/ 32 <= r /\ r <= 55295 \/ 57344 <= r /\ r <= 65533 \/ 65536 <= r /\ r <= 1114111)
theorem chI_nat {r : Nat} : chI r = isCh r := by
 unfold chI isCh
 rw [Bool.eq_iff_iff]
 simp only [decide_eq_true_eq]
 omega
theorem spChar_do (r : Int) (w : World) : Calls Tryz.prog 46 #[.int .i64 r] w fun e w' => e = .returned (.bool (chI r)) /\ Drw w w' := by
 unfold chI
 go_enter Tryz.func46, Tryz.ntmps46
 go_wp2
 all_goals (
  go_ret
  refine ⟨congrArg (fun b => Ending.returned (.bool b)) ?_, Drw.refl _⟩
  first
   | rfl
   | (rw [Bool.eq_iff_iff]
      simp
      try omega))
end
section
open Go.RowKit
def ct (c : Nat) : Bool := decide (128 <= c /\ c < 192)
def decN (n a b c d : Nat) : Nat × Nat :=
 if a < 128 then (a, 1) else if a < 194 then (0, 0)
 else if a < 224 then (if n < 2 then (0, 0) else if ct b = false then (0, 0) else (a % 32 * 64 + b % 64, 2))
 else if a < 240 then (if n < 3 then (0, 0) else if ct b = false then (0, 0) else if ct c = false then (0, 0) else if (a % 16 * 64 + b % 64) * 64 + c % 64 < 2048 \/ 55296 <= (a % 16 * 64 + b % 64) * 64 + c % 64 /\ (a % 16 * 64 + b % 64) * 64 + c % 64 < 57344 then (0, 0) else ((a % 16 * 64 + b % 64) * 64 + c % 64, 3))
 else if a < 245 then (if n < 4 then (0, 0) else if ct b = false then (0, 0) else if ct c = false then (0, 0) else if ct d = false then (0, 0) else if ((a % 8 * 64 + b % 64) * 64 + c % 64) * 64 + d % 64 < 65536 \/ 1114111 < ((a % 8 * 64 + b % 64) * 64 + c % 64) * 64 + d % 64 then (0, 0) else (((a % 8 * 64 + b % 64) * 64 + c % 64) * 64 + d % 64, 4))
 else (0, 0)
def decS (l : List UInt8) : Nat × Nat := if l = [] then (0, 0) else decN l.length (l.getD 0 0).toNat (l.getD 1 0).toNat (l.getD 2 0).toNat (l.getD 3 0).toNat
theorem and192 (c : Nat) (h : c < 256) : (bits .and .u8 (c : Int) 192 != 128) = !(ct c) := by
 have key : ∀ x : Fin 256, (bits .and .u8 ((x.val : Nat) : Int) 192 != 128) = !(ct x.val) := by decide
 exact key ⟨c, h⟩
theorem wraps_i64 (j : Nat) (hj : j <= 32) (n : Int) (h0 : 0 <= n) (h1 : n < 2 ^ j) : IntKind.i64.wrap n = n := by
 have h2 : (2 : Int) ^ j <= 2 ^ 32 := by
  have := Nat.pow_le_pow_right (n := 2) (by decide) hj
  exact_mod_cast this
 have h3 : (2 : Int) ^ 32 = 4294967296 := by decide
 exact IntWalk.i64_in _ (by omega)
theorem mask64 (i : Nat) (hi : i <= 8) (c : Nat) (h : c < 256) (k : Nat) (hk : k = 2 ^ i) (z : Int) (hz : z = 2 ^ i - 1) : bits .and .i64 (c : Int) z = ((c % k : Nat) : Int) := by
 subst hz hk
 have h8 : ((c : Nat) : Int) < 2 ^ 8 := by
  have h1 : (2 : Int) ^ 8 = 256 := by decide
  rw [h1]; omega
 rw [bits_mask .i64 8 (by decide) (wraps_i64 8 (by decide)) i hi (c : Int) (by omega) h8]
 exact_mod_cast rfl
theorem mask8 (c : Nat) (h : c < 256) : bits .and .u8 (c : Int) 63 = ((c % 64 : Nat) : Int) := by
 have := bits_mask .u8 8 (by decide) wraps_u8 6 (by decide) (c : Int) (by omega) (by
  have h1 : (2 : Int) ^ 8 = 256 := by decide
  rw [h1]; omega)
 exact_mod_cast this
theorem join64 (a b : Nat) (ha : a % 64 = 0) (ha2 : a < 16777216) (hb : b < 64) : bits .or .i64 (a : Int) (b : Int) = ((a + b : Nat) : Int) := by
 have h24 : (2 : Int) ^ 24 = 16777216 := by decide
 have h6 : (2 : Int) ^ 6 = 64 := by decide
 rw [bits_join .i64 24 (by decide) (wraps_i64 24 (by decide)) 6 (a : Int) (b : Int) (by omega) (by rw [h6]; omega) (by rw [h24]; omega) (by omega) (by rw [h6]; omega) (by rw [h24]; omega)]
 simp
theorem w64 (n : Nat) (h : n < 4294967296) : wrap64 (n : Int) = (n : Int) := IntWalk.wrap64_in _ (by omega)
theorem w64m (n m : Nat) (h : n * 64 = m) (h2 : m < 4294967296) : wrap64 ((n : Int) * 64) = (m : Int) := by
 have : ((n : Int) * 64) = ((m : Nat) : Int) := by omega
 rw [this]; exact w64 m h2
theorem qs (x x2 y z : Nat) (hx : x < 262144) (h2 : x * 64 = x2) (hy : y = z % 64) : y < 4294967296 /\ x2 % 64 = 0 /\ x2 < 16777216 /\ y < 64 /\ x2 < 4294967296 := by omega
theorem qr (x x2 y r n : Nat) (hx : x < n) (h2 : x * 64 = x2) (hy : y < 64) (hr : r = x2 + y) : r < n * 64 := by omega
section
variable (s : ByteArray) (a b c d : Nat) (w : World) (ha : a < 256) (hb : b < 256) (hc : c < 256) (hd : d < 256)
 (ha0 : ∀ h, (s[0]'h).toNat = a) (hb0 : ∀ h, (s[1]'h).toNat = b) (hc0 : ∀ h, (s[2]'h).toNat = c) (hd0 : ∀ h, (s[3]'h).toNat = d) (he : s.toList.isEmpty = false) (hz : 0 < s.size)
include ha ha0 he hz
theorem dec_1 (h : a < 128) : Calls Tryz.prog 45 #[.string s] w fun e w' => e = .returned (.tuple #[.int .i64 a, .int .i64 1]) /\ Drw w w' := by
 have hw := w64 a (by omega)
 go_enter Tryz.func45, Tryz.ntmps45
 go_wp2
 go_ret2
 exact ⟨rfl, Drw.refl _⟩
theorem dec_0 (h : 128 <= a /\ a < 194 \/ 245 <= a) : Calls Tryz.prog 45 #[.string s] w fun e w' => e = .returned (.tuple #[.int .i64 0, .int .i64 0]) /\ Drw w w' := by
 have hw := w64 a (by omega)
 rcases h with ⟨h1, h2⟩ | h1
 all_goals (
  go_enter Tryz.func45, Tryz.ntmps45
  go_wp2
  all_goals (
   go_ret2
   exact ⟨rfl, Drw.refl _⟩))
theorem dec_short (h1 : 194 <= a) (h2 : a < 245) (hn : s.size < 2 \/ 224 <= a /\ s.size < 3 \/ 240 <= a /\ s.size < 4) : Calls Tryz.prog 45 #[.string s] w fun e w' => e = .returned (.tuple #[.int .i64 0, .int .i64 0]) /\ Drw w w' := by
 have hw := w64 a (by omega)
 have h3 : a < 224 \/ 224 <= a /\ a < 240 \/ 240 <= a := by omega
 rcases h3 with h3 | ⟨h3, h4⟩ | h3
 ·have hn' : (s.size : Int) < 2 := by omega
  go_enter Tryz.func45, Tryz.ntmps45
  go_wp2
  go_ret2
  exact ⟨rfl, Drw.refl _⟩
 ·have hn' : (s.size : Int) < 3 := by omega
  go_enter Tryz.func45, Tryz.ntmps45
  go_wp2
  go_ret2
  exact ⟨rfl, Drw.refl _⟩
 ·have hn' : (s.size : Int) < 4 := by omega
  go_enter Tryz.func45, Tryz.ntmps45
  go_wp2
  go_ret2
  exact ⟨rfl, Drw.refl _⟩
include hb hb0
theorem dec_2 (h1 : 194 <= a) (h2 : a < 224) (hn : 2 <= s.size) : Calls Tryz.prog 45 #[.string s] w fun e w' => e = .returned (if ct b = false then .tuple #[.int .i64 0, .int .i64 0] else .tuple #[.int .i64 ((a % 32 * 64 + b % 64 : Nat) : Int), .int .i64 2]) /\ Drw w w' := by
 have hw := w64 a (by omega)
 have z1 : ¬ (s.size : Int) < 2 := by omega
 have z3 : (1 : Int) < s.size := by omega
 have hb1 := and192 b hb
 obtain ⟨p, hp⟩ : ∃ p, p = a % 32 := ⟨_, rfl⟩
 obtain ⟨p2, hp2⟩ : ∃ p2, p * 64 = p2 := ⟨_, rfl⟩
 obtain ⟨q, hq⟩ : ∃ q, q = b % 64 := ⟨_, rfl⟩
 obtain ⟨r, hr⟩ : ∃ r, r = p2 + q := ⟨_, rfl⟩
 have q1 : q < 4294967296 /\ p2 % 64 = 0 /\ p2 < 16777216 /\ q < 64 /\ p2 < 4294967296 := by omega
 have hfin : a % 32 * 64 + b % 64 = r := by omega
 have m0 : bits .and .i64 (a : Int) 31 = (p : Int) := by rw [hp]; exact mask64 5 (by decide) a ha 32 (by decide) 31 (by decide)
 have m1 : wrap64 ((p : Int) * 64) = (p2 : Int) := w64m p p2 hp2 q1.2.2.2.2
 have m2 : bits .and .u8 (b : Int) 63 = (q : Int) := by rw [hq]; exact mask8 b hb
 have m3 := w64 q q1.1
 have m4 : bits .or .i64 (p2 : Int) (q : Int) = (r : Int) := by rw [hr]; exact join64 p2 q q1.2.1 q1.2.2.1 q1.2.2.2.1
 rw [hfin]
 clear q1 hfin hr hq hp2 hp
 cases hct : ct b
 ·rw [hct] at hb1
  simp only [if_true]
  go_enter Tryz.func45, Tryz.ntmps45
  go_wp2
  refine wp_loop_rounds 3 ?_
  rw [rounds_succ]; go_wp2
  go_ret2
  exact ⟨rfl, Drw.refl _⟩
 ·rw [hct] at hb1
  simp only [Bool.true_eq_false, if_false]
  go_enter Tryz.func45, Tryz.ntmps45
  go_wp2
  refine wp_loop_rounds 3 ?_
  rw [rounds_succ]; go_wp2
  rw [rounds_succ]; go_wp2
  go_ret2
  exact ⟨rfl, Drw.refl _⟩
include hc hc0
theorem dec_3 (h1 : 224 <= a) (h2 : a < 240) (hn : 3 <= s.size) (R : Nat) (hR : R = (a % 16 * 64 + b % 64) * 64 + c % 64) : Calls Tryz.prog 45 #[.string s] w fun e w' => e = .returned (if ct b = false then .tuple #[.int .i64 0, .int .i64 0] else if ct c = false then .tuple #[.int .i64 0, .int .i64 0] else if R < 2048 \/ 55296 <= R /\ R < 57344 then .tuple #[.int .i64 0, .int .i64 0] else .tuple #[.int .i64 (R : Int), .int .i64 3]) /\ Drw w w' := by
 have hw := w64 a (by omega)
 have z1 : ¬ (s.size : Int) < 3 := by omega
 have z3 : (1 : Int) < s.size := by omega
 have z4 : (2 : Int) < s.size := by omega
 have hb1 := and192 b hb
 have hc1 := and192 c hc
 obtain ⟨p, hp⟩ : ∃ p, p = a % 16 := ⟨_, rfl⟩
 obtain ⟨p2, hp2⟩ : ∃ p2, p * 64 = p2 := ⟨_, rfl⟩
 obtain ⟨q, hq⟩ : ∃ q, q = b % 64 := ⟨_, rfl⟩
 obtain ⟨r, hr⟩ : ∃ r, r = p2 + q := ⟨_, rfl⟩
 obtain ⟨r2, hr2⟩ : ∃ r2, r * 64 = r2 := ⟨_, rfl⟩
 obtain ⟨t, ht⟩ : ∃ t, t = c % 64 := ⟨_, rfl⟩
 have q1 : q < 4294967296 /\ p2 % 64 = 0 /\ p2 < 16777216 /\ q < 64 /\ p2 < 4294967296 := by omega
 have q2 : t < 4294967296 /\ r2 % 64 = 0 /\ r2 < 16777216 /\ t < 64 /\ r2 < 4294967296 := by omega
 have m0 : bits .and .i64 (a : Int) 15 = (p : Int) := by rw [hp]; exact mask64 4 (by decide) a ha 16 (by decide) 15 (by decide)
 have m1 : wrap64 ((p : Int) * 64) = (p2 : Int) := w64m p p2 hp2 q1.2.2.2.2
 have m2 : bits .and .u8 (b : Int) 63 = (q : Int) := by rw [hq]; exact mask8 b hb
 have m3 := w64 q q1.1
 have m4 : bits .or .i64 (p2 : Int) (q : Int) = (r : Int) := by rw [hr]; exact join64 p2 q q1.2.1 q1.2.2.1 q1.2.2.2.1
 have m5 : wrap64 ((r : Int) * 64) = (r2 : Int) := w64m r r2 hr2 q2.2.2.2.2
 have m6 : bits .and .u8 (c : Int) 63 = (t : Int) := by rw [ht]; exact mask8 c hc
 have m7 := w64 t q2.1
 have hfin : R = r2 + t := by rw [hR, <- hr2, hr, <- hp2, hp, hq, ht]
 have m8 : bits .or .i64 (r2 : Int) (t : Int) = (R : Int) := by rw [hfin]; exact join64 r2 t q2.2.1 q2.2.2.1 q2.2.2.2.1
 clear q1 q2 hfin hr hq hp2 hp hr2 ht hR
 cases hct : ct b
 ·rw [hct] at hb1
  simp only [if_true]
  go_enter Tryz.func45, Tryz.ntmps45
  go_wp2
  refine wp_loop_rounds 3 ?_
  rw [rounds_succ]; go_wp2
  go_ret2
  exact ⟨rfl, Drw.refl _⟩
 ·rw [hct] at hb1
  simp only [Bool.true_eq_false, if_false]
  cases hct2 : ct c
  ·rw [hct2] at hc1
   simp only [if_true]
   go_enter Tryz.func45, Tryz.ntmps45
   go_wp2
   refine wp_loop_rounds 3 ?_
   rw [rounds_succ]; go_wp2
   rw [rounds_succ]; go_wp2
   go_ret2
   exact ⟨rfl, Drw.refl _⟩
  ·rw [hct2] at hc1
   simp only [Bool.true_eq_false, if_false]
   by_cases hx : R < 2048 \/ 55296 <= R /\ R < 57344
   ·rw [if_pos hx]
    rcases hx with hx | ⟨hx, hy⟩
    all_goals (
     go_enter Tryz.func45, Tryz.ntmps45
     go_wp2
     refine wp_loop_rounds 3 ?_
     rw [rounds_succ]; go_wp2
     rw [rounds_succ]; go_wp2
     rw [rounds_succ]; go_wp2
     go_ret2
     exact ⟨rfl, Drw.refl _⟩)
   ·rw [if_neg hx]
    have hx1 : 2048 <= R := by omega
    have hx2 : R < 55296 \/ 57344 <= R := by omega
    clear hx
    rcases hx2 with hx2 | hx2
    all_goals (
     go_enter Tryz.func45, Tryz.ntmps45
     go_wp2
     refine wp_loop_rounds 3 ?_
     rw [rounds_succ]; go_wp2
     rw [rounds_succ]; go_wp2
     rw [rounds_succ]; go_wp2
     go_ret2
     exact ⟨rfl, Drw.refl _⟩)
include hd hd0
theorem dec_4 (h1 : 240 <= a) (h2 : a < 245) (hn : 4 <= s.size) (R : Nat) (hR : R = ((a % 8 * 64 + b % 64) * 64 + c % 64) * 64 + d % 64) : Calls Tryz.prog 45 #[.string s] w fun e w' => e = .returned (if ct b = false then .tuple #[.int .i64 0, .int .i64 0] else if ct c = false then .tuple #[.int .i64 0, .int .i64 0] else if ct d = false then .tuple #[.int .i64 0, .int .i64 0] else if R < 65536 \/ 1114111 < R then .tuple #[.int .i64 0, .int .i64 0] else .tuple #[.int .i64 (R : Int), .int .i64 4]) /\ Drw w w' := by
 have hw := w64 a (by omega)
 have z1 : ¬ (s.size : Int) < 4 := by omega
 have z3 : (1 : Int) < s.size := by omega
 have z4 : (2 : Int) < s.size := by omega
 have z5 : (3 : Int) < s.size := by omega
 have hb1 := and192 b hb
 have hc1 := and192 c hc
 have hd1 := and192 d hd
 obtain ⟨p, hp⟩ : ∃ p, p = a % 8 := ⟨_, rfl⟩
 obtain ⟨p2, hp2⟩ : ∃ p2, p * 64 = p2 := ⟨_, rfl⟩
 obtain ⟨q, hq⟩ : ∃ q, q = b % 64 := ⟨_, rfl⟩
 obtain ⟨r, hr⟩ : ∃ r, r = p2 + q := ⟨_, rfl⟩
 obtain ⟨r2, hr2⟩ : ∃ r2, r * 64 = r2 := ⟨_, rfl⟩
 obtain ⟨t, ht⟩ : ∃ t, t = c % 64 := ⟨_, rfl⟩
 obtain ⟨v, hv⟩ : ∃ v, v = r2 + t := ⟨_, rfl⟩
 obtain ⟨v2, hv2⟩ : ∃ v2, v * 64 = v2 := ⟨_, rfl⟩
 obtain ⟨z, hzz⟩ : ∃ z, z = d % 64 := ⟨_, rfl⟩
 have hp8 : p < 32 := by rw [hp]; exact Nat.lt_of_lt_of_le (Nat.mod_lt a (by decide)) (by decide)
 have q1 := qs p p2 q b (Nat.lt_of_lt_of_le hp8 (by decide)) hp2 hq
 have hr8 := qr p p2 q r 32 hp8 hp2 q1.2.2.2.1 hr
 have q2 := qs r r2 t c (Nat.lt_of_lt_of_le hr8 (by decide)) hr2 ht
 have hv8 := qr r r2 t v 2048 hr8 hr2 q2.2.2.2.1 hv
 have q3 := qs v v2 z d (Nat.lt_of_lt_of_le hv8 (by decide)) hv2 hzz
 clear hv8 hr8 hp8
 have m0 : bits .and .i64 (a : Int) 7 = (p : Int) := by rw [hp]; exact mask64 3 (by decide) a ha 8 (by decide) 7 (by decide)
 have m1 : wrap64 ((p : Int) * 64) = (p2 : Int) := w64m p p2 hp2 q1.2.2.2.2
 have m2 : bits .and .u8 (b : Int) 63 = (q : Int) := by rw [hq]; exact mask8 b hb
 have m3 := w64 q q1.1
 have m4 : bits .or .i64 (p2 : Int) (q : Int) = (r : Int) := by rw [hr]; exact join64 p2 q q1.2.1 q1.2.2.1 q1.2.2.2.1
 have m5 : wrap64 ((r : Int) * 64) = (r2 : Int) := w64m r r2 hr2 q2.2.2.2.2
 have m6 : bits .and .u8 (c : Int) 63 = (t : Int) := by rw [ht]; exact mask8 c hc
 have m7 := w64 t q2.1
 have m8 : bits .or .i64 (r2 : Int) (t : Int) = (v : Int) := by rw [hv]; exact join64 r2 t q2.2.1 q2.2.2.1 q2.2.2.2.1
 have m9 : wrap64 ((v : Int) * 64) = (v2 : Int) := w64m v v2 hv2 q3.2.2.2.2
 have m10 : bits .and .u8 (d : Int) 63 = (z : Int) := by rw [hzz]; exact mask8 d hd
 have m11 := w64 z q3.1
 have hfin : R = v2 + z := by rw [hR, <- hv2, hv, <- hr2, hr, <- hp2, hp, hq, ht, hzz]
 have m12 : bits .or .i64 (v2 : Int) (z : Int) = (R : Int) := by rw [hfin]; exact join64 v2 z q3.2.1 q3.2.2.1 q3.2.2.2.1
 clear q1 q2 q3 hfin hr hq hp2 hp hr2 ht hR hv hv2 hzz
 cases hct : ct b
 ·rw [hct] at hb1
  simp only [if_true]
  go_enter Tryz.func45, Tryz.ntmps45
  go_wp2
  refine wp_loop_rounds 4 ?_
  rw [rounds_succ]; go_wp2
  go_ret2
  exact ⟨rfl, Drw.refl _⟩
 ·rw [hct] at hb1
  simp only [Bool.true_eq_false, if_false]
  cases hct2 : ct c
  ·rw [hct2] at hc1
   simp only [if_true]
   go_enter Tryz.func45, Tryz.ntmps45
   go_wp2
   refine wp_loop_rounds 4 ?_
   rw [rounds_succ]; go_wp2
   rw [rounds_succ]; go_wp2
   go_ret2
   exact ⟨rfl, Drw.refl _⟩
  ·rw [hct2] at hc1
   simp only [Bool.true_eq_false, if_false]
   cases hct3 : ct d
   ·rw [hct3] at hd1
    simp only [if_true]
    go_enter Tryz.func45, Tryz.ntmps45
    go_wp2
    refine wp_loop_rounds 4 ?_
    rw [rounds_succ]; go_wp2
    rw [rounds_succ]; go_wp2
    rw [rounds_succ]; go_wp2
    go_ret2
    exact ⟨rfl, Drw.refl _⟩
   ·rw [hct3] at hd1
    simp only [Bool.true_eq_false, if_false]
    by_cases hx : R < 65536 \/ 1114111 < R
    ·rw [if_pos hx]
     rcases hx with hx | hx
     all_goals (
      go_enter Tryz.func45, Tryz.ntmps45
      go_wp2
      refine wp_loop_rounds 4 ?_
      rw [rounds_succ]; go_wp2
      rw [rounds_succ]; go_wp2
      rw [rounds_succ]; go_wp2
      rw [rounds_succ]; go_wp2
      go_ret2
      exact ⟨rfl, Drw.refl _⟩)
    ·rw [if_neg hx]
     have hx1 : 65536 <= R := by omega
     have hx2 : R <= 1114111 := by omega
     clear hx
     go_enter Tryz.func45, Tryz.ntmps45
     go_wp2
     refine wp_loop_rounds 4 ?_
     rw [rounds_succ]; go_wp2
     rw [rounds_succ]; go_wp2
     rw [rounds_succ]; go_wp2
     rw [rounds_succ]; go_wp2
     go_ret2
     exact ⟨rfl, Drw.refl _⟩
end
end
section
open Go.RowKit
theorem get_data (s : ByteArray) (i : Nat) (h : i < s.size) : (s[i]'h).toNat = (s.data.toList.getD i 0).toNat := by
 rw [List.getD_eq_getElem?_getD, Lib.data_getElem? s i h]; rfl
theorem dec_nil (s : ByteArray) (w : World) (he : s.toList.isEmpty = true) : Calls Tryz.prog 45 #[.string s] w fun e w' => e = .returned (.tuple #[.int .i64 0, .int .i64 0]) /\ Drw w w' := by
 go_enter Tryz.func45, Tryz.ntmps45
 go_wp2
 go_ret2
 exact ⟨rfl, Drw.refl _⟩
def decV (l : List UInt8) : Value := .tuple #[.int .i64 (decS l).1, .int .i64 (decS l).2]
theorem decode_do (s : ByteArray) (w : World) : Calls Tryz.prog 45 #[.string s] w fun e w' => e = .returned (decV s.data.toList) /\ Drw w w' := by
 have hsz : s.size = s.data.toList.length := Lib.size_eq s
 by_cases h0 : s.size = 0
 ·have hl : s.data.toList = [] := List.length_eq_zero_iff.1 (by omega)
  have : decV s.data.toList = .tuple #[.int .i64 0, .int .i64 0] := by rw [hl]; rfl
  rw [this]
  exact dec_nil s w (toList_nil h0)
 ·have hz : 0 < s.size := by omega
  have he := toList_ne hz
  have g0 := get_data s 0
  have g1 := get_data s 1
  have g2 := get_data s 2
  have g3 := get_data s 3
  have l0 := (s.data.toList.getD 0 0).toNat_lt
  have l1 := (s.data.toList.getD 1 0).toNat_lt
  have l2 := (s.data.toList.getD 2 0).toNat_lt
  have l3 := (s.data.toList.getD 3 0).toNat_lt
  have hne : s.data.toList ≠ [] := fun e => h0 (hsz.trans (by rw [e]; rfl))
  have hd : decS s.data.toList = decN s.size (s.data.toList.getD 0 0).toNat (s.data.toList.getD 1 0).toNat (s.data.toList.getD 2 0).toNat (s.data.toList.getD 3 0).toNat := by
   unfold decS; rw [if_neg hne, hsz]
  unfold decV
  rw [hd]
  generalize (s.data.toList.getD 0 0).toNat = a at *
  generalize (s.data.toList.getD 1 0).toNat = b at *
  generalize (s.data.toList.getD 2 0).toNat = c at *
  generalize (s.data.toList.getD 3 0).toNat = d at *
  unfold decN
  by_cases h1 : a < 128
  ·rw [if_pos h1]; exact dec_1 s a w l0 g0 he hz h1
  rw [if_neg h1]
  by_cases h2 : a < 194
  ·rw [if_pos h2]; exact dec_0 s a w l0 g0 he hz (.inl ⟨by omega, h2⟩)
  rw [if_neg h2]
  by_cases h3 : a < 224
  ·rw [if_pos h3]
   by_cases hn : s.size < 2
   ·rw [if_pos hn]; exact dec_short s a w l0 g0 he hz (by omega) (by omega) (.inl hn)
   ·rw [if_neg hn]
    refine (dec_2 s a b w l0 l1 g0 g1 he hz (by omega) h3 (by omega)).mono ?_
    rintro e w' ⟨rfl, k⟩
    refine ⟨?_, k⟩
    split <;> rfl
  rw [if_neg h3]
  by_cases h4 : a < 240
  ·rw [if_pos h4]
   by_cases hn : s.size < 3
   ·rw [if_pos hn]; exact dec_short s a w l0 g0 he hz (by omega) (by omega) (.inr (.inl ⟨by omega, hn⟩))
   ·rw [if_neg hn]
    refine (dec_3 s a b c w l0 l1 l2 g0 g1 g2 he hz (by omega) h4 (by omega) _ rfl).mono ?_
    rintro e w' ⟨rfl, k⟩
    refine ⟨?_, k⟩
    split
    ·rfl
    split
    ·rfl
    split <;> rfl
  rw [if_neg h4]
  by_cases h5 : a < 245
  ·rw [if_pos h5]
   by_cases hn : s.size < 4
   ·rw [if_pos hn]; exact dec_short s a w l0 g0 he hz (by omega) (by omega) (.inr (.inr ⟨by omega, hn⟩))
   ·rw [if_neg hn]
    refine (dec_4 s a b c d w l0 l1 l2 l3 g0 g1 g2 g3 he hz (by omega) h5 (by omega) _ rfl).mono ?_
    rintro e w' ⟨rfl, k⟩
    refine ⟨?_, k⟩
    split
    ·rfl
    split
    ·rfl
    split
    ·rfl
    split <;> rfl
  ·rw [if_neg h5]; exact dec_0 s a w l0 g0 he hz (.inr (by omega))
theorem ct_true {c : Nat} (h : ¬ (ct c = false)) : 128 <= c /\ c < 192 := by
 cases hc : ct c with
 | false => exact absurd hc h
 | true => exact of_decide_eq_true hc
theorem ct_mk {c : Nat} (h : 128 <= c /\ c < 192) : ¬ (ct c = false) := by
 have : ct c = true := decide_eq_true h
 rw [this]; simp
theorem decN_shape (n a b c d : Nat) : decN n a b c d = (0, 0) \/ (a < 128 /\ decN n a b c d = (a, 1)) \/ (194 <= a /\ a < 224 /\ 2 <= n /\ (128 <= b /\ b < 192) /\ decN n a b c d = (a % 32 * 64 + b % 64, 2)) \/
  (224 <= a /\ a < 240 /\ 3 <= n /\ (128 <= b /\ b < 192) /\ (128 <= c /\ c < 192) /\ ¬ ((a % 16 * 64 + b % 64) * 64 + c % 64 < 2048 \/ 55296 <= (a % 16 * 64 + b % 64) * 64 + c % 64 /\ (a % 16 * 64 + b % 64) * 64 + c % 64 < 57344) /\ decN n a b c d = ((a % 16 * 64 + b % 64) * 64 + c % 64, 3)) \/
  (240 <= a /\ a < 245 /\ 4 <= n /\ (128 <= b /\ b < 192) /\ (128 <= c /\ c < 192) /\ (128 <= d /\ d < 192) /\ ¬ (((a % 8 * 64 + b % 64) * 64 + c % 64) * 64 + d % 64 < 65536 \/ 1114111 < ((a % 8 * 64 + b % 64) * 64 + c % 64) * 64 + d % 64) /\ decN n a b c d = (((a % 8 * 64 + b % 64) * 64 + c % 64) * 64 + d % 64, 4)) := by
 by_cases h1 : a < 128
 ·exact .inr (.inl ⟨h1, by unfold decN; rw [if_pos h1]⟩)
 by_cases h2 : a < 194
 ·exact .inl (by unfold decN; rw [if_neg h1, if_pos h2])
 by_cases h3 : a < 224
 ·by_cases h4 : n < 2
  ·exact .inl (by unfold decN; rw [if_neg h1, if_neg h2, if_pos h3, if_pos h4])
  by_cases h5 : ct b = false
  ·exact .inl (by unfold decN; rw [if_neg h1, if_neg h2, if_pos h3, if_neg h4, if_pos h5])
  ·exact .inr (.inr (.inl ⟨by omega, h3, by omega, ct_true h5, by unfold decN; rw [if_neg h1, if_neg h2, if_pos h3, if_neg h4, if_neg h5]⟩))
 by_cases h4 : a < 240
 ·by_cases h5 : n < 3
  ·exact .inl (by unfold decN; rw [if_neg h1, if_neg h2, if_neg h3, if_pos h4, if_pos h5])
  by_cases h6 : ct b = false
  ·exact .inl (by unfold decN; rw [if_neg h1, if_neg h2, if_neg h3, if_pos h4, if_neg h5, if_pos h6])
  by_cases h7 : ct c = false
  ·exact .inl (by unfold decN; rw [if_neg h1, if_neg h2, if_neg h3, if_pos h4, if_neg h5, if_neg h6, if_pos h7])
  by_cases h8 : (a % 16 * 64 + b % 64) * 64 + c % 64 < 2048 \/ 55296 <= (a % 16 * 64 + b % 64) * 64 + c % 64 /\ (a % 16 * 64 + b % 64) * 64 + c % 64 < 57344
  ·exact .inl (by unfold decN; rw [if_neg h1, if_neg h2, if_neg h3, if_pos h4, if_neg h5, if_neg h6, if_neg h7, if_pos h8])
  ·exact .inr (.inr (.inr (.inl ⟨by omega, h4, by omega, ct_true h6, ct_true h7, h8, by unfold decN; rw [if_neg h1, if_neg h2, if_neg h3, if_pos h4, if_neg h5, if_neg h6, if_neg h7, if_neg h8]⟩)))
 by_cases h5 : a < 245
 ·by_cases h6 : n < 4
  ·exact .inl (by unfold decN; rw [if_neg h1, if_neg h2, if_neg h3, if_neg h4, if_pos h5, if_pos h6])
  by_cases h7 : ct b = false
  ·exact .inl (by unfold decN; rw [if_neg h1, if_neg h2, if_neg h3, if_neg h4, if_pos h5, if_neg h6, if_pos h7])
  by_cases h8 : ct c = false
  ·exact .inl (by unfold decN; rw [if_neg h1, if_neg h2, if_neg h3, if_neg h4, if_pos h5, if_neg h6, if_neg h7, if_pos h8])
  by_cases h9 : ct d = false
  ·exact .inl (by unfold decN; rw [if_neg h1, if_neg h2, if_neg h3, if_neg h4, if_pos h5, if_neg h6, if_neg h7, if_neg h8, if_pos h9])
  by_cases h10 : ((a % 8 * 64 + b % 64) * 64 + c % 64) * 64 + d % 64 < 65536 \/ 1114111 < ((a % 8 * 64 + b % 64) * 64 + c % 64) * 64 + d % 64
  ·exact .inl (by unfold decN; rw [if_neg h1, if_neg h2, if_neg h3, if_neg h4, if_pos h5, if_neg h6, if_neg h7, if_neg h8, if_neg h9, if_pos h10])
  ·exact .inr (.inr (.inr (.inr ⟨by omega, h5, by omega, ct_true h7, ct_true h8, ct_true h9, h10, by unfold decN; rw [if_neg h1, if_neg h2, if_neg h3, if_neg h4, if_pos h5, if_neg h6, if_neg h7, if_neg h8, if_neg h9, if_neg h10]⟩)))
 ·exact .inl (by unfold decN; rw [if_neg h1, if_neg h2, if_neg h3, if_neg h4, if_neg h5])
theorem decS_some (l : List UInt8) (h : (decS l).2 ≠ 0) : ∃ rest, l = u8 (decS l).1 ++ rest /\ (decS l).2 = (u8 (decS l).1).length /\ okR (decS l).1 := by
 by_cases hne : l = []
 ·have e : decS l = (0, 0) := by unfold decS; rw [if_pos hne]
  rw [e] at h; exact absurd rfl h
 have ed : decS l = decN l.length (l.getD 0 0).toNat (l.getD 1 0).toNat (l.getD 2 0).toNat (l.getD 3 0).toNat := by unfold decS; rw [if_neg hne]
 have hb : ∀ (x : UInt8) (n : Nat), n = x.toNat -> UInt8.ofNat n = x := by intro x n h; subst h; simp
 have l0 := (l.getD 0 0).toNat_lt
 have l1 := (l.getD 1 0).toNat_lt
 have l2 := (l.getD 2 0).toNat_lt
 have l3 := (l.getD 3 0).toNat_lt
 have ht1 : 1 <= l.length -> l.take 1 = [l.getD 0 0] := fun h => by
  match l, h with
  | x :: t, _ => simp
 have ht2 : 2 <= l.length -> l.take 2 = [l.getD 0 0, l.getD 1 0] := fun h => by
  match l, h with
  | x :: y :: t, _ => simp
 have ht3 : 3 <= l.length -> l.take 3 = [l.getD 0 0, l.getD 1 0, l.getD 2 0] := fun h => by
  match l, h with
  | x :: y :: z :: t, _ => simp
 have ht4 : 4 <= l.length -> l.take 4 = [l.getD 0 0, l.getD 1 0, l.getD 2 0, l.getD 3 0] := fun h => by
  match l, h with
  | x :: y :: z :: u :: t, _ => simp
 have hlen : 1 <= l.length := by
  cases l with
  | nil => exact absurd rfl hne
  | cons a t => simp
 have h0 := hb (l.getD 0 0)
 have h1 := hb (l.getD 1 0)
 have h2 := hb (l.getD 2 0)
 have h3 := hb (l.getD 3 0)
 generalize hA : (l.getD 0 0).toNat = a at *
 generalize hB : (l.getD 1 0).toNat = b at *
 generalize hC : (l.getD 2 0).toNat = c at *
 generalize hD : (l.getD 3 0).toNat = d at *
 rcases decN_shape l.length a b c d with e | ⟨c1, e⟩ | ⟨c1, c2, c3, c4, e⟩ | ⟨c1, c2, c3, c4, c5, c6, e⟩ | ⟨c1, c2, c3, c4, c5, c6, c7, e⟩
 ·rw [ed, e] at h; exact absurd rfl h
 ·rw [ed, e]
  have eu : u8 a = [l.getD 0 0] := by rw [u8_ascii c1, h0 a rfl]
  refine ⟨l.drop 1, ?_, by show 1 = (u8 a).length; rw [eu]; rfl, by unfold okR; omega⟩
  show l = u8 a ++ _
  rw [eu, <- ht1 hlen, List.take_append_drop]
 ·rw [ed, e]
  generalize hr : a % 32 * 64 + b % 64 = r
  have eu : u8 r = [l.getD 0 0, l.getD 1 0] := by
   unfold u8
   rw [if_neg (by omega), if_pos (by omega), h0 _ (by omega), h1 _ (by omega)]
  refine ⟨l.drop 2, ?_, by show 2 = (u8 r).length; rw [eu]; rfl, by unfold okR; omega⟩
  show l = u8 r ++ _
  rw [eu, <- ht2 c3, List.take_append_drop]
 ·rw [ed, e]
  generalize hr : (a % 16 * 64 + b % 64) * 64 + c % 64 = r at *
  have eu : u8 r = [l.getD 0 0, l.getD 1 0, l.getD 2 0] := by
   unfold u8
   rw [if_neg (by omega), if_neg (by omega), if_pos (by omega), h0 _ (by omega), h1 _ (by omega), h2 _ (by omega)]
  refine ⟨l.drop 3, ?_, by show 3 = (u8 r).length; rw [eu]; rfl, by unfold okR; omega⟩
  show l = u8 r ++ _
  rw [eu, <- ht3 c3, List.take_append_drop]
 ·rw [ed, e]
  generalize hr : ((a % 8 * 64 + b % 64) * 64 + c % 64) * 64 + d % 64 = r at *
  have eu : u8 r = [l.getD 0 0, l.getD 1 0, l.getD 2 0, l.getD 3 0] := by
   unfold u8
   rw [if_neg (by omega), if_neg (by omega), if_neg (by omega), h0 _ (by omega), h1 _ (by omega), h2 _ (by omega), h3 _ (by omega)]
  refine ⟨l.drop 4, ?_, by show 4 = (u8 r).length; rw [eu]; rfl, by unfold okR; omega⟩
  show l = u8 r ++ _
  rw [eu, <- ht4 c3, List.take_append_drop]
theorem decS_u8 (r : Nat) (hr : okR r) (t : List UInt8) : decS (u8 r ++ t) = (r, (u8 r).length) := by
 unfold okR at hr
 have hne : u8 r ++ t ≠ [] := by
  have := (u8_len r).1
  intro e
  rw [(List.append_eq_nil_iff.1 e).1] at this
  exact absurd this (by decide)
 unfold decS
 rw [if_neg hne]
 unfold u8
 repeat' split
 ·have e : (UInt8.ofNat r).toNat = r := ofNat_toNat (by omega)
  simp only [List.cons_append, List.getD_cons_zero, List.getD_cons_succ, List.nil_append, e]
  unfold decN
  rw [if_pos (by omega)]; rfl
 ·have e0 : (UInt8.ofNat (192 + r / 64)).toNat = 192 + r / 64 := ofNat_toNat (by omega)
  have e1 : (UInt8.ofNat (128 + r % 64)).toNat = 128 + r % 64 := ofNat_toNat (by omega)
  simp only [List.cons_append, List.getD_cons_zero, List.getD_cons_succ, List.nil_append, e0, e1]
  unfold decN
  rw [if_neg (by omega), if_neg (by omega), if_pos (by omega), if_neg (by simp), if_neg (ct_mk (by omega))]
  refine Prod.ext ?_ rfl
  simp only []; omega
 ·have e0 : (UInt8.ofNat (224 + r / 4096)).toNat = 224 + r / 4096 := ofNat_toNat (by omega)
  have e1 : (UInt8.ofNat (128 + r / 64 % 64)).toNat = 128 + r / 64 % 64 := ofNat_toNat (by omega)
  have e2 : (UInt8.ofNat (128 + r % 64)).toNat = 128 + r % 64 := ofNat_toNat (by omega)
  simp only [List.cons_append, List.getD_cons_zero, List.getD_cons_succ, List.nil_append, e0, e1, e2]
  unfold decN
  have hv : ((224 + r / 4096) % 16 * 64 + (128 + r / 64 % 64) % 64) * 64 + (128 + r % 64) % 64 = r := by omega
  rw [if_neg (by omega), if_neg (by omega), if_neg (by omega), if_pos (by omega), if_neg (by simp), if_neg (ct_mk (by omega)), if_neg (ct_mk (by omega)), if_neg (by omega), hv]; rfl
 ·have e0 : (UInt8.ofNat (240 + r / 262144)).toNat = 240 + r / 262144 := ofNat_toNat (by omega)
  have e1 : (UInt8.ofNat (128 + r / 4096 % 64)).toNat = 128 + r / 4096 % 64 := ofNat_toNat (by omega)
  have e2 : (UInt8.ofNat (128 + r / 64 % 64)).toNat = 128 + r / 64 % 64 := ofNat_toNat (by omega)
  have e3 : (UInt8.ofNat (128 + r % 64)).toNat = 128 + r % 64 := ofNat_toNat (by omega)
  simp only [List.cons_append, List.getD_cons_zero, List.getD_cons_succ, List.nil_append, e0, e1, e2, e3]
  unfold decN
  have hv : (((240 + r / 262144) % 8 * 64 + (128 + r / 4096 % 64) % 64) * 64 + (128 + r / 64 % 64) % 64) * 64 + (128 + r % 64) % 64 = r := by omega
  rw [if_neg (by omega), if_neg (by omega), if_neg (by omega), if_neg (by omega), if_pos (by omega), if_neg (by simp), if_neg (ct_mk (by omega)), if_neg (ct_mk (by omega)), if_neg (ct_mk (by omega)), if_neg (by omega), hv]; rfl
end
section
open Go.RowKit
theorem Drw.trans {a b c : World} (h : Drw a b) (k : Drw b c) : Drw a c := by
 obtain ⟨n, rfl⟩ := h
 obtain ⟨m, rfl⟩ := k
 exact ⟨n + m, drewN_add a n m⟩
theorem ext_end (s : ByteArray) (a : Nat) : (s.extract a s.size).data.toList = s.data.toList.drop a := Lib.extract_to_end s a
theorem ext_size (s : ByteArray) (a : Nat) : (s.extract a s.size).size = s.size - a := by
 rw [Lib.size_eq, ext_end, List.length_drop, <- Lib.size_eq]
theorem ext_sub (s : ByteArray) (a b : Nat) : (s.extract a b).data.toList = (s.data.toList.take b).drop a := by
 rw [ByteArray.data_extract, Array.toList_extract, List.extract_eq_take_drop, List.drop_take]
theorem list_nil {s : ByteArray} (h : s.size = 0) : s.data.toList = [] := List.length_eq_zero_iff.1 (by rw [<- Lib.size_eq]; exact h)
theorem decode_at (s : ByteArray) : ∃ r n, decS s.data.toList = (r, n) /\ (∀ w, Calls Tryz.prog 45 #[.string s] w fun e w' => e = .returned (.tuple #[.int .i64 (r : Nat), .int .i64 (n : Nat)]) /\ Drw w w') /\ n <= 4 /\ n <= s.size /\ (n ≠ 0 -> (∃ rest, s.data.toList = u8 r ++ rest) /\ n = (u8 r).length /\ okR r) := by
 refine ⟨(decS s.data.toList).1, (decS s.data.toList).2, rfl, fun w => decode_do s w, ?_⟩
 by_cases h : (decS s.data.toList).2 = 0
 ·rw [h]; exact ⟨by omega, by omega, fun h => absurd rfl h⟩
 ·obtain ⟨rest, h1, h2, h3⟩ := decS_some _ h
  have h4 := (u8_len (decS s.data.toList).1).2
  have h5 : s.size = (u8 (decS s.data.toList).1).length + rest.length := by
   have := congrArg List.length h1
   rw [List.length_append, <- Lib.size_eq] at this
   exact this
  exact ⟨by omega, by omega, fun _ => ⟨⟨rest, h1⟩, h2, h3⟩⟩
def ChS (l : List UInt8) : Prop := ∃ rs, l = nb rs /\ ∀ r ∈ rs, isCh r = true
theorem chars_do (s : ByteArray) (w : World) : Calls Tryz.prog 23 #[.string s] w fun e w' => ∃ b, e = .returned (.bool b) /\ Drw w w' /\ (b = true -> ChS s.data.toList) /\ ∀ r, isCh r = true -> s.data.toList = u8 r -> b = true := by
 go_enter Tryz.func23, Tryz.ntmps23
 go_wp2
 go_loopg [0] s.size (fun k u wr => ∃ t : ByteArray, u = .string t /\ t.size = k /\ Drw w wr /\ (∃ rs, s.data.toList = nb rs ++ t.data.toList /\ ∀ r ∈ rs, isCh r = true) /\ ∀ r, isCh r = true -> s.data.toList = u8 r -> t.data.toList = u8 r \/ t.size = 0)
 case atStart => exact ⟨s, rfl, rfl, Drw.refl w, ⟨[], rfl, fun r h => (by cases h)⟩, fun r _ h => .inl h⟩
 case round =>
  obtain ⟨t, rfl, hk, hD, hg, hr⟩ := hrel
  replace hr := zz hr
  replace hk := zz hk
  replace hg := zz hg
  by_cases h0 : t.size = 0
  ·have he := toList_nil h0
   have hfin : ChS s.data.toList := by
    obtain ⟨rs, h1, h2⟩ := hg.out
    exact ⟨rs, by rw [h1, list_nil h0, List.append_nil], h2⟩
   replace hfin := zz hfin
   replace h0 := zz h0
   replace hD := zz hD
   go_wp2
   go_ret
   exact ⟨_, rfl, hD.out, fun _ => hfin.out, fun _ _ _ => rfl⟩
  ·have he := toList_ne (s := t) (by omega)
   obtain ⟨r, n, hrn, hdc, hn4, hns, hsome⟩ := decode_at t
   have hd := fun (wr : World) => (hdc wr).mono (R' := fun e w' => e = .returned (.tuple #[.int .i64 (r : Nat), .int .i64 (n : Nat)]) /\ Hid (Drw wr w')) (fun _ _ h => h)
   have hch := fun (wr : World) => (spChar_do (r : Int) wr).mono (R' := fun e w' => e = .returned (.bool (isCh r)) /\ Hid (Drw wr w')) (fun _ _ h => by rw [chI_nat] at h; exact h)
   replace hd := zz hd
   replace hch := zz hch
   replace hrn := zz hrn
   replace hD := zz hD
   replace hsome := zz hsome
   replace h0 := zz h0
   clear hdc
   by_cases hn : n = 0
   ·have e0 : ((n : Int) == 0) = true := by rw [beq_iff_eq]; omega
    replace hn := zz hn
    go_wp2_with (first | (go_at_call 45; refine (hd.out _).mono ?_; rintro e w1 ⟨rfl, k1⟩) | (go_at_call 46; refine (hch.out _).mono ?_; rintro e w2 ⟨rfl, k2⟩))
    go_ret
    refine ⟨_, rfl, hD.out.trans k1.out, fun h => absurd h (by decide), fun r' h1 h2 => ?_⟩
    exfalso
    rcases hr.out r' h1 h2 with h | h
    ·have := decS_u8 r' (isCh_ok h1) []
     rw [List.append_nil, <- h, hrn.out] at this
     have h3 := (u8_len r').1
     have h4 := congrArg Prod.snd this
     simp only at h4
     have := hn.out
     rw [h] at h4
     omega
    ·exact h0.out h
   ·have e0 : ((n : Int) == 0) = false := by rw [beq_eq_false_iff_ne]; omega
    obtain ⟨⟨rest, h1⟩, h2, h3⟩ := hsome.out hn
    cases hc : isCh r
    ·rw [hc] at hch
     replace hn := zz hn
     replace h1 := zz h1
     replace h2 := zz h2
     replace h3 := zz h3
     go_wp2_with (first | (go_at_call 45; refine (hd.out _).mono ?_; rintro e w1 ⟨rfl, k1⟩) | (go_at_call 46; refine (hch.out _).mono ?_; rintro e w2 ⟨rfl, k2⟩))
     go_ret
     refine ⟨_, rfl, (hD.out.trans k1.out).trans k2.out, fun h => absurd h (by decide), fun r' h1' h2' => ?_⟩
     exfalso
     rcases hr.out r' h1' h2' with h | h
     ·have := decS_u8 r' (isCh_ok h1') []
      rw [List.append_nil, <- h, hrn.out] at this
      have h4 := congrArg Prod.fst this
      simp only at h4
      rw [h4, h1'] at hc
      cases hc
     ·exact h0.out h
    ·rw [hc] at hch
     have i1 : (n : Int) <= (t.size : Int) := by omega
     have i2 : (0 : Int) <= (n : Int) := by omega
     have hsz := ext_size t n
     have hex := ext_end t n
     have hg2 : ∃ rs, s.data.toList = nb rs ++ (t.extract n t.size).data.toList /\ ∀ r ∈ rs, isCh r = true := by
      obtain ⟨rs, g1, g2⟩ := hg.out
      refine ⟨rs ++ [r], ?_, fun x hx => ?_⟩
      ·rw [g1, hex, nb_append, h1, h2, List.drop_left]
       simp [nb]
      ·rcases List.mem_append.1 hx with hx | hx
       ·exact g2 x hx
       ·obtain rfl : x = r := by simpa using hx
        exact hc
     replace hg2 := zz hg2
     replace hn := zz hn
     replace h1 := zz h1
     replace h2 := zz h2
     replace h3 := zz h3
     replace hsz := zz hsz
     replace hex := zz hex
     go_wp2_with (first | (go_at_call 45; refine (hd.out _).mono ?_; rintro e w1 ⟨rfl, k1⟩) | (go_at_call 46; refine (hch.out _).mono ?_; rintro e w2 ⟨rfl, k2⟩))
     go_roundg (t.size - n)
     case measure => have := hk.out; have := hn.out; omega
     case rel =>
      refine ⟨_, rfl, hsz.out, (hD.out.trans k1.out).trans k2.out, hg2.out, fun r' h1' h2' => .inr ?_⟩
      rcases hr.out r' h1' h2' with h | h
      ·have := decS_u8 r' (isCh_ok h1') []
       rw [List.append_nil, <- h, hrn.out] at this
       have h4 := congrArg Prod.snd this
       simp only at h4
       rw [hsz.out, h4, Lib.size_eq, h]; omega
      ·exact absurd h h0.out
end
end Go.Proofs.YtepbbahdhhjibaaGreatDoor
