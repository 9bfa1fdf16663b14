/- own text -/
import Derived.Test.YtepbbahdhhjibaaGreatDoorC44
namespace Go.Proofs.YtepbbahdhhjibaaGreatDoor
set_option linter.unusedSimpArgs false
set_option linter.unusedVariables false
set_option maxHeartbeats 8000000
set_option maxRecDepth 100000
set_option linter.unusedSectionVars false
section
open Go.RowKit
structure TokP (P : Nat) (s : ByteArray) (base a : Nat) (q : PV) (vd : Int) (gs : List GT) (opn : List ByteArray) (w : World) (e : Ending) (w' : World) : Prop where
 ex : ∃ ok : Bool, e = .returned (.bool ok) /\ ((ok = false /\ FailQ P s base w w') \/ (ok = true /\ ∃ q' a' gs' opn' bnd', a < a' /\ a' <= s.size /\ SQ P s base w' a' q' vd gs' opn' bnd' /\ GoP P q w q' w' /\ BOk bnd' /\ bnd'.length = opn'.length /\ gs'.length <= gs.length + 2 /\ opn'.length <= opn.length + 1 /\ RdI s a' gs' opn'))
theorem RdI.no {s : ByteArray} {b : Nat} {gs : List GT} {opn' : List ByteArray} {g : GT} (hg : g.sp.size ≠ 0) : RdI s b (gs ++ [g]) opn' := ⟨fun hp => absurd (hp g (by simp)).sp hg⟩
section
variable {P : Nat} {s : ByteArray} {base : Nat} {w : World} {a : Nat} {q : PV} {vd : Int} {gs : List GT} {opn : List ByteArray} {bnd : List (List (ByteArray × ByteArray))} (h : SQ P s base w a q vd gs opn bnd) (hz : s.size <= 800000) (hn : gs.length <= 800000) (hbase : base <= w.heap.size) (hok : BOk bnd) (hln : opn.length <= 800000) (hlb : bnd.length = opn.length) (hr : RdI s a gs opn) (haz : a <= s.size) {A : Nat} {w1 : World} (k : SP P s q vd w A w1)
include h hz hn hbase hok hln hlb hr haz k
theorem tk_text (hA : A = a) {c : UInt8} {t : List UInt8} (hL : s.data.toList.drop a = c :: t) (hc : c ≠ 60) : Calls Tryz.prog 75 #[.pointer (some ⟨P, 0, none⟩)] w1 fun e w' => ∃ ok : Bool, e = .returned (.bool ok) /\ Hid (TokP P s base a q vd gs opn w (.returned (.bool ok)) w') := by
 subst hA
 refine (text_do P s base w1 A q vd gs opn bnd (h.sp k) (by omega) (by omega) (Nat.le_trans hbase k.2.size) c t hL hc).mono ?_
 rintro e w' ⟨ok, rfl, hk⟩
 refine ⟨ok, rfl, ⟨⟨ok, rfl, ?_⟩⟩⟩
 rcases hk with ⟨h1, h2⟩ | ⟨h1, q', els, rs, rest, h2, h3, h4, h5, h6, h7⟩
 ·exact .inl ⟨h1, (h2.q (h.lo P (.inl rfl))).from (frB k.2 (h.lo P (.inl rfl)))⟩
 ·have hs1 := at_le h2 haz
  have hs2 : 1 <= (srcs els).length := by
   cases els with
   | nil => exact absurd rfl h4
   | cons e l =>
    rw [srcs_cons, List.length_append]
    have : 1 <= e.src.length := by cases e <;> simp [El.src]
    omega
  exact .inr ⟨h1, q', _, _, _, _, by omega, by omega, h6, (GoP.of k.2).tr h7, hok, hlb, by simp, by omega, hr.tx haz h2 h3 h4 h5 hL hc⟩
theorem tk_cd (hA : A = a + 9) (hAs : A <= s.size) {rest : List UInt8} (hL : s.data.toList.drop a = [60, 33, 91, 67, 68, 65, 84, 65, 91] ++ rest) : Calls Tryz.prog 80 #[.pointer (some ⟨P, 0, none⟩)] w1 fun e w' => ∃ ok : Bool, e = .returned (.bool ok) /\ Hid (TokP P s base a q vd gs opn w (.returned (.bool ok)) w') := by
 have hgo : s.data.toList.drop A = rest := by rw [hA]; exact at_go hL
 refine (section_do P s base w1 A q vd gs opn bnd (h.sp k) (by omega) (by omega) (Nat.le_trans hbase k.2.size) hAs).mono ?_
 rintro e w' ⟨ok, rfl, hk⟩
 refine ⟨ok, rfl, ⟨⟨ok, rfl, ?_⟩⟩⟩
 rcases hk with ⟨h1, h2⟩ | ⟨h1, q', els, rs, rest', h2, h3, h4, h5⟩
 ·exact .inl ⟨h1, (h2.q (h.lo P (.inl rfl))).from (frB k.2 (h.lo P (.inl rfl)))⟩
 ·have hs1 := at_le h2 hAs
  simp at hs1
  refine .inr ⟨h1, q', _, _, _, _, by omega, by omega, h4, (GoP.of k.2).tr h5, hok, hlb, by simp, by omega, hr.cd haz (rest := rest') (els := els) (by rw [hL, <- hgo, h2]; rfl) h3 (by omega)⟩
theorem tk_cm (hA : A = a + 4) (hAs : A <= s.size) {rest : List UInt8} (hL : s.data.toList.drop a = [60, 33, 45, 45] ++ rest) : Calls Tryz.prog 79 #[.pointer (some ⟨P, 0, none⟩)] w1 fun e w' => ∃ ok : Bool, e = .returned (.bool ok) /\ Hid (TokP P s base a q vd gs opn w (.returned (.bool ok)) w') := by
 have hgo : s.data.toList.drop A = rest := by rw [hA]; exact at_go hL
 refine (comment_do P s base w1 A q vd gs opn bnd (h.sp k) (by omega) (by omega) (Nat.le_trans hbase k.2.size) hAs).mono ?_
 rintro e w' ⟨ok, rfl, hk⟩
 refine ⟨ok, rfl, ⟨⟨ok, rfl, ?_⟩⟩⟩
 rcases hk with ⟨h1, h2⟩ | ⟨h1, q', d, rest', h2, h3, h4, h5⟩
 ·exact .inl ⟨h1, (h2.q (h.lo P (.inl rfl))).from (frB k.2 (h.lo P (.inl rfl)))⟩
 ·have hs1 := at_le h2 hAs
  simp at hs1
  refine .inr ⟨h1, q', _, _, _, _, by omega, by omega, h4, (GoP.of k.2).tr h5, hok, hlb, by simp, by omega, hr.cm haz (rest := rest') (d := d) (by rw [hL, <- hgo, h2]; rfl) h3 (by omega)⟩
theorem tk_pi (hA : A = a + 2) (hAs : A <= s.size) {rest : List UInt8} (hL : s.data.toList.drop a = [60, 63] ++ rest) : Calls Tryz.prog 78 #[.pointer (some ⟨P, 0, none⟩)] w1 fun e w' => ∃ ok : Bool, e = .returned (.bool ok) /\ Hid (TokP P s base a q vd gs opn w (.returned (.bool ok)) w') := by
 have hgo : s.data.toList.drop A = rest := by rw [hA]; exact at_go hL
 refine (instruction_do P s base w1 A q vd gs opn bnd (h.sp k) (by omega) (by omega) (Nat.le_trans hbase k.2.size) hAs).mono ?_
 rintro e w' ⟨ok, rfl, hk⟩
 refine ⟨ok, rfl, ⟨⟨ok, rfl, ?_⟩⟩⟩
 rcases hk with ⟨h1, h2⟩ | ⟨h1, q', nm, ws, d, rest', a', h2, h3, h4, h5, h6, h7, h8, h9, h10⟩
 ·exact .inl ⟨h1, (h2.q (h.lo P (.inl rfl))).from (frB k.2 (h.lo P (.inl rfl)))⟩
 ·have hs1 := at_le h2 hAs
  simp at hs1
  refine .inr ⟨h1, q', _, _, _, _, by omega, by omega, h9, (GoP.of k.2).tr h10, hok, hlb, by simp, by omega, hr.pi haz (rest := rest') (nm := nm) (ws := ws) (d := d) (by rw [hL, <- hgo, h2]; rfl) h4 h5 h6 h7 h8 (by omega)⟩
theorem tk_dt (hA : A = a + 9) (hAs : A <= s.size) : Calls Tryz.prog 81 #[.pointer (some ⟨P, 0, none⟩)] w1 fun e w' => ∃ ok : Bool, e = .returned (.bool ok) /\ Hid (TokP P s base a q vd gs opn w (.returned (.bool ok)) w') := by
 refine (doctype_do P s base w1 A q vd gs opn bnd (h.sp k) (by omega) (by omega) (Nat.le_trans hbase k.2.size) hAs).mono ?_
 rintro e w' ⟨ok, rfl, hk⟩
 refine ⟨ok, rfl, ⟨⟨ok, rfl, ?_⟩⟩⟩
 rcases hk with ⟨h1, h2⟩ | ⟨h1, q', x, a', h2, h3, h4, h5⟩
 ·exact .inl ⟨h1, (h2.q (h.lo P (.inl rfl))).from (frB k.2 (h.lo P (.inl rfl)))⟩
 ·exact .inr ⟨h1, q', _, _, _, _, by omega, by omega, h4, (GoP.of k.2).tr h5, hok, hlb, by simp, by omega, hr.dt rfl⟩
theorem tk_en (hA : A = a + 2) (hAs : A <= s.size) {rest : List UInt8} (hL : s.data.toList.drop a = [60, 47] ++ rest) : Calls Tryz.prog 77 #[.pointer (some ⟨P, 0, none⟩)] w1 fun e w' => ∃ ok : Bool, e = .returned (.bool ok) /\ Hid (TokP P s base a q vd gs opn w (.returned (.bool ok)) w') := by
 have hgo : s.data.toList.drop A = rest := by rw [hA]; exact at_go hL
 refine (endTag_do P s base w1 A q vd gs opn bnd (h.sp k) (by omega) (by omega) (Nat.le_trans hbase k.2.size) hAs hok (by omega) hlb).mono ?_
 rintro e w' ⟨ok, rfl, hk⟩
 refine ⟨ok, rfl, ⟨⟨ok, rfl, ?_⟩⟩⟩
 rcases hk with ⟨h1, h2⟩ | ⟨h1, q', a', opn', bnd', x, p, l, r, h2, h3, h4, h5, h6, h7, h8, h9⟩
 ·exact .inl ⟨h1, h2.from (frB k.2 (h.lo P (.inl rfl)))⟩
 ·refine .inr ⟨h1, q', _, _, _, _, by omega, by omega, h7, (GoP.of k.2).tr h8, fun y hy => hok y (by rw [h5]; simp [hy]), ?_, by simp, by have := congrArg List.length h4; simp at this; omega, ?_⟩
  ·rw [h4, h5] at hlb; simpa using hlb
  ·by_cases hr0 : r.size = 0
   ·obtain ⟨rfl, nm, ws, k1, rfl, k3, k4, k5⟩ := h9 (h6 hr0)
    exact hr.en haz (ws := ws) (nm := nm) (rest := s.data.toList.drop a') h4 (by rw [hL, <- hgo, k4]; rfl) k3 (by omega)
   ·exact RdI.no hr0
theorem tk_st (hA : A = a + 1) (hAs : A <= s.size) {rest : List UInt8} (hL : s.data.toList.drop a = [60] ++ rest) : Calls Tryz.prog 84 #[.pointer (some ⟨P, 0, none⟩)] w1 fun e w' => ∃ ok : Bool, e = .returned (.bool ok) /\ Hid (TokP P s base a q vd gs opn w (.returned (.bool ok)) w') := by
 have hgo : s.data.toList.drop A = rest := by rw [hA]; exact at_go hL
 refine (startTag_do P s base w1 A q vd gs opn bnd (h.sp k) (by omega) (by omega) (Nat.le_trans hbase k.2.size) hAs hok (by omega) hlb).mono ?_
 rintro e w' ⟨ok, rfl, hk⟩
 refine ⟨ok, rfl, ⟨⟨ok, rfl, ?_⟩⟩⟩
 rcases hk with ⟨h1, h2⟩ | ⟨h1, q', a', opn', bnd', ts, p, l, r, ats, ats', emp, h2, h3, h4, h5, h6, h7, h8, h9, h10, h11, h12⟩
 ·exact .inl ⟨h1, h2.from (frB k.2 (h.lo P (.inl rfl)))⟩
 ·have hss : StSrc s a a' p l ats emp := fun hp hat => by
   obtain ⟨f1, nm, As, ws, f2, f3, f4, f5, f6, f7, f8⟩ := h11 hp hat
   refine ⟨f1, nm, As, ws, f2, f3, f4, f5, f6, ?_, ?_⟩
   ·rw [hL, <- hgo, f7]; simp [Item.src]
   ·rw [f8, hA]; simp [Item.src]; omega
  refine .inr ⟨h1, q', _, _, _, _, by omega, by omega, h4, (GoP.of k.2).tr h5, h6, h7, ?_, ?_, hr.st haz h8 h9 h10 hss h12⟩
  ·rcases h12 with ⟨_, rfl, _⟩ | ⟨_, _, r2, _, rfl⟩ <;> simp
  ·rcases h12 with ⟨_, _, rfl⟩ | ⟨_, rfl, _⟩ <;> simp
end
theorem token_do (P : Nat) (s : ByteArray) (base : Nat) (w : World) (a : Nat) (q : PV) (vd : Int) (gs : List GT) (opn : List ByteArray) (bnd : List (List (ByteArray × ByteArray))) (h : SQ P s base w a q vd gs opn bnd) (hz : s.size <= 800000) (hn : gs.length <= 800000) (hbase : base <= w.heap.size) (hok : BOk bnd) (hln : opn.length <= 800000) (hlb : bnd.length = opn.length) (hr : RdI s a gs opn) (hlt : a < s.size) :
  Calls Tryz.prog 43 #[.pointer (some ⟨P, 0, none⟩)] w (TokP P s base a q vd gs opn w) := by
 have haz : a <= s.size := by omega
 have hP0 : base <= P := h.lo P (.inl rfl)
 have hz' : s.size <= 1000000 := by omega
 obtain ⟨c, t, hL⟩ : ∃ c t, s.data.toList.drop a = c :: t := by
  cases hd : s.data.toList.drop a with
  | nil =>
   have := congrArg List.length hd
   rw [List.length_drop, <- Lib.size_eq] at this
   simp at this
   omega
  | cons c t => exact ⟨c, t, rfl⟩
 obtain ⟨_, g1, _⟩ := at_byte hL
 obtain ⟨c0, c1, _⟩ := h.blk.c
 have i1 : (a : Int) < (s.size : Int) := by omega
 obtain ⟨n, hn'⟩ : ∃ n, n = c.toNat := ⟨_, rfl⟩
 rw [<- hn'] at g1
 have hS := fun m => (SP.start h.blk).drewN (w1 := w) m
 have hst := fun (w1 : World) (A : Nat) (k : SP P s q vd w A w1) => k
 by_cases h60 : c = 60
 ·have hn60 : n = 60 := by rw [hn', h60]; rfl
  subst hn60
  rw [h60] at hL
  have hdr := hS
  replace hdr := zz hdr
  rcases lit_or [60, 47] (60 :: t) with ⟨t0, ht0⟩ | hno0
  ·have hL2 := hL.trans ht0
   have hsz := at_le hL2 haz
   have hA : a + 2 <= s.size := by simp at hsz; omega
   have hy := fun (w1 : World) (k : SP P s q vd w a w1) => k.hasY hz' haz [60, 47] t0 hL2 (by decide)
   have hx := fun (w1 : World) (k : SP P s q vd w (a + 2) w1) => tk_en h hz hn hbase hok hln hlb hr haz k rfl hA hL2
   replace hx := zz hx
   replace hy := zz hy
   clear h hok hlb hr hS hst hL hL2 hsz ht0
   go_enter Tryz.func43, Tryz.ntmps43
   go_wp2
   go_quiet (fail)
   have k0 := zz (hdr.out nq)
   go_wp2_with (first
    | (go_at_call 77; refine (hx.out _ k1.out).mono ?_; rintro e w2 ⟨ok, rfl, k2⟩)
    | (go_at_call 76; refine (hy.out _ k0.out).mono ?_; rintro e w1 ⟨rfl, _, k1⟩))
   go_ret
   exact k2.out
  have hn0 := fun (w1 : World) (k : SP P s q vd w a w1) => k.hasN hz' haz [60, 47] (by rw [hL]; exact take_ne hno0) (by decide)
  replace hn0 := zz hn0
  rcases lit_or [60, 63] (60 :: t) with ⟨t1, ht1⟩ | hno1
  ·have hL2 := hL.trans ht1
   have hsz := at_le hL2 haz
   have hA : a + 2 <= s.size := by simp at hsz; omega
   have hy := fun (w1 : World) (k : SP P s q vd w a w1) => k.hasY hz' haz [60, 63] t1 hL2 (by decide)
   have hx := fun (w1 : World) (k : SP P s q vd w (a + 2) w1) => tk_pi h hz hn hbase hok hln hlb hr haz k rfl hA hL2
   replace hx := zz hx
   replace hy := zz hy
   clear h hok hlb hr hS hst hL hL2 hsz ht1 hno0
   go_enter Tryz.func43, Tryz.ntmps43
   go_wp2
   go_quiet (fail)
   have k0 := zz (hdr.out nq)
   go_wp2_with (first
    | (go_at_call 78; refine (hx.out _ k2.out).mono ?_; rintro e w3 ⟨ok, rfl, k3⟩)
    | (go_at_call 76; refine (hy.out _ k1.out).mono ?_; rintro e w2 ⟨rfl, _, k2⟩)
    | (go_at_call 76; refine (hn0.out _ k0.out).mono ?_; rintro e w1 ⟨rfl, _, k1⟩))
   go_ret
   exact k3.out
  have hn1 := fun (w1 : World) (k : SP P s q vd w a w1) => k.hasN hz' haz [60, 63] (by rw [hL]; exact take_ne hno1) (by decide)
  replace hn1 := zz hn1
  rcases lit_or [60, 33, 45, 45] (60 :: t) with ⟨t2, ht2⟩ | hno2
  ·have hL2 := hL.trans ht2
   have hsz := at_le hL2 haz
   have hA : a + 4 <= s.size := by simp at hsz; omega
   have hy := fun (w1 : World) (k : SP P s q vd w a w1) => k.hasY hz' haz [60, 33, 45, 45] t2 hL2 (by decide)
   have hx := fun (w1 : World) (k : SP P s q vd w (a + 4) w1) => tk_cm h hz hn hbase hok hln hlb hr haz k rfl hA hL2
   replace hx := zz hx
   replace hy := zz hy
   clear h hok hlb hr hS hst hL hL2 hsz ht2 hno0 hno1
   go_enter Tryz.func43, Tryz.ntmps43
   go_wp2
   go_quiet (fail)
   have k0 := zz (hdr.out nq)
   go_wp2_with (first
    | (go_at_call 79; refine (hx.out _ k3.out).mono ?_; rintro e w4 ⟨ok, rfl, k4⟩)
    | (go_at_call 76; refine (hy.out _ k2.out).mono ?_; rintro e w3 ⟨rfl, _, k3⟩)
    | (go_at_call 76; refine (hn1.out _ k1.out).mono ?_; rintro e w2 ⟨rfl, _, k2⟩)
    | (go_at_call 76; refine (hn0.out _ k0.out).mono ?_; rintro e w1 ⟨rfl, _, k1⟩))
   go_ret
   exact k4.out
  have hn2 := fun (w1 : World) (k : SP P s q vd w a w1) => k.hasN hz' haz [60, 33, 45, 45] (by rw [hL]; exact take_ne hno2) (by decide)
  replace hn2 := zz hn2
  rcases lit_or [60, 33, 91, 67, 68, 65, 84, 65, 91] (60 :: t) with ⟨t3, ht3⟩ | hno3
  ·have hL2 := hL.trans ht3
   have hsz := at_le hL2 haz
   have hA : a + 9 <= s.size := by simp at hsz; omega
   have hy := fun (w1 : World) (k : SP P s q vd w a w1) => k.hasY hz' haz [60, 33, 91, 67, 68, 65, 84, 65, 91] t3 hL2 (by decide)
   have hx := fun (w1 : World) (k : SP P s q vd w (a + 9) w1) => tk_cd h hz hn hbase hok hln hlb hr haz k rfl hA hL2
   replace hx := zz hx
   replace hy := zz hy
   clear h hok hlb hr hS hst hL hL2 hsz ht3 hno0 hno1 hno2
   go_enter Tryz.func43, Tryz.ntmps43
   go_wp2
   go_quiet (fail)
   have k0 := zz (hdr.out nq)
   go_wp2_with (first
    | (go_at_call 80; refine (hx.out _ k4.out).mono ?_; rintro e w5 ⟨ok, rfl, k5⟩)
    | (go_at_call 76; refine (hy.out _ k3.out).mono ?_; rintro e w4 ⟨rfl, _, k4⟩)
    | (go_at_call 76; refine (hn2.out _ k2.out).mono ?_; rintro e w3 ⟨rfl, _, k3⟩)
    | (go_at_call 76; refine (hn1.out _ k1.out).mono ?_; rintro e w2 ⟨rfl, _, k2⟩)
    | (go_at_call 76; refine (hn0.out _ k0.out).mono ?_; rintro e w1 ⟨rfl, _, k1⟩))
   go_ret
   exact k5.out
  have hn3 := fun (w1 : World) (k : SP P s q vd w a w1) => k.hasN hz' haz [60, 33, 91, 67, 68, 65, 84, 65, 91] (by rw [hL]; exact take_ne hno3) (by decide)
  replace hn3 := zz hn3
  rcases lit_or [60, 33, 68, 79, 67, 84, 89, 80, 69] (60 :: t) with ⟨t4, ht4⟩ | hno4
  ·have hL2 := hL.trans ht4
   have hsz := at_le hL2 haz
   have hA : a + 9 <= s.size := by simp at hsz; omega
   have hy := fun (w1 : World) (k : SP P s q vd w a w1) => k.hasY hz' haz [60, 33, 68, 79, 67, 84, 89, 80, 69] t4 hL2 (by decide)
   have hx := fun (w1 : World) (k : SP P s q vd w (a + 9) w1) => tk_dt h hz hn hbase hok hln hlb hr haz k rfl hA
   replace hx := zz hx
   replace hy := zz hy
   clear h hok hlb hr hS hst hL hL2 hsz ht4 hno0 hno1 hno2 hno3
   go_enter Tryz.func43, Tryz.ntmps43
   go_wp2
   go_quiet (fail)
   have k0 := zz (hdr.out nq)
   go_wp2_with (first
    | (go_at_call 81; refine (hx.out _ k5.out).mono ?_; rintro e w6 ⟨ok, rfl, k6⟩)
    | (go_at_call 76; refine (hy.out _ k4.out).mono ?_; rintro e w5 ⟨rfl, _, k5⟩)
    | (go_at_call 76; refine (hn3.out _ k3.out).mono ?_; rintro e w4 ⟨rfl, _, k4⟩)
    | (go_at_call 76; refine (hn2.out _ k2.out).mono ?_; rintro e w3 ⟨rfl, _, k3⟩)
    | (go_at_call 76; refine (hn1.out _ k1.out).mono ?_; rintro e w2 ⟨rfl, _, k2⟩)
    | (go_at_call 76; refine (hn0.out _ k0.out).mono ?_; rintro e w1 ⟨rfl, _, k1⟩))
   go_ret
   exact k6.out
  have hn4 := fun (w1 : World) (k : SP P s q vd w a w1) => k.hasN hz' haz [60, 33, 68, 79, 67, 84, 89, 80, 69] (by rw [hL]; exact take_ne hno4) (by decide)
  replace hn4 := zz hn4
  rcases lit_or [60, 33] (60 :: t) with ⟨t5, ht5⟩ | hno5
  ·have hL2 := hL.trans ht5
   have hsz := at_le hL2 haz
   have hA : a + 2 <= s.size := by simp at hsz; omega
   have hy := fun (w1 : World) (k : SP P s q vd w a w1) => k.hasY hz' haz [60, 33] t5 hL2 (by decide)
   have hx := fun (w1 : World) (k : SP P s q vd w (a + 2) w1) => begun_do k hz'
   have hf := fun (v : Int) (w1 : World) (k : v ≠ 0 /\ SP P s q vd w (a + 2) w1) => k.2.fail v k.1 hA
   replace hf := zz hf
   replace hx := zz hx
   replace hy := zz hy
   clear h hok hlb hr hS hst hL hL2 hsz ht5 hno0 hno1 hno2 hno3 hno4
   go_enter Tryz.func43, Tryz.ntmps43
   go_wp2
   go_quiet (fail)
   have k0 := zz (hdr.out nq)
   go_wp2_with (first
    | (go_at_call 82; refine (hf.out _ _ k7.out).mono ?_; rintro e w8 ⟨rfl, k8⟩)
    | (go_at_call 83; refine (hx.out _ k6.out).mono ?_; rintro e w7 ⟨v, rfl, k7⟩)
    | (go_at_call 76; refine (hy.out _ k5.out).mono ?_; rintro e w6 ⟨rfl, _, k6⟩)
    | (go_at_call 76; refine (hn4.out _ k4.out).mono ?_; rintro e w5 ⟨rfl, _, k5⟩)
    | (go_at_call 76; refine (hn3.out _ k3.out).mono ?_; rintro e w4 ⟨rfl, _, k4⟩)
    | (go_at_call 76; refine (hn2.out _ k2.out).mono ?_; rintro e w3 ⟨rfl, _, k3⟩)
    | (go_at_call 76; refine (hn1.out _ k1.out).mono ?_; rintro e w2 ⟨rfl, _, k2⟩)
    | (go_at_call 76; refine (hn0.out _ k0.out).mono ?_; rintro e w1 ⟨rfl, _, k1⟩))
   go_ret
   exact ⟨⟨false, rfl, .inl ⟨rfl, k8.out.q hP0⟩⟩⟩
  have hn5 := fun (w1 : World) (k : SP P s q vd w a w1) => k.hasN hz' haz [60, 33] (by rw [hL]; exact take_ne hno5) (by decide)
  replace hn5 := zz hn5
  have hA : a + 1 <= s.size := hlt
  have hx := fun (w1 : World) (k : SP P s q vd w a w1) => (tk_st h hz hn hbase hok hln hlb hr haz (k.set1 (a + 1)) rfl hA (rest := t) hL)
  have hc2 := fun (w1 : World) (k : SP P s q vd w a w1) => k.c
  have hI : IntKind.i64.wrap ((a : Int) + 1) = ((a + 1 : Nat) : Int) := by rw [IntWalk.i64_in _ (by omega)]; omega
  replace hx := zz hx
  replace hc2 := zz hc2
  replace hI := zz hI
  clear h hok hlb hr hS hst hL hno0 hno1 hno2 hno3 hno4 hno5
  go_enter Tryz.func43, Tryz.ntmps43
  go_wp2
  go_quiet (fail)
  have k0 := zz (hdr.out nq)
  go_upto_region 15 with (first
   | (go_at_call 76; refine (hn5.out _ k5.out).mono ?_; rintro e w6 ⟨rfl, _, k6⟩)
   | (go_at_call 76; refine (hn4.out _ k4.out).mono ?_; rintro e w5 ⟨rfl, _, k5⟩)
   | (go_at_call 76; refine (hn3.out _ k3.out).mono ?_; rintro e w4 ⟨rfl, _, k4⟩)
   | (go_at_call 76; refine (hn2.out _ k2.out).mono ?_; rintro e w3 ⟨rfl, _, k3⟩)
   | (go_at_call 76; refine (hn1.out _ k1.out).mono ?_; rintro e w2 ⟨rfl, _, k2⟩)
   | (go_at_call 76; refine (hn0.out _ k0.out).mono ?_; rintro e w1 ⟨rfl, _, k1⟩))
  obtain ⟨d0, d1, df⟩ := hc2.out _ k6.out
  have d2 := df 1
  have hx6 := hx.out _ k6.out
  replace hx6 := zz hx6
  replace df := zz df
  clear c0 c1
  go_upto_region 16 with fail
  go_wp2_with (go_at_call 84; refine hx6.out.mono ?_; rintro e w7 ⟨ok, rfl, k7⟩)
  go_ret
  exact k7.out
 ·have e60 : ((n : Int) != 60) = true := by
   rw [bne_iff_ne]; intro e
   apply h60
   exact UInt8.toNat_inj.1 (by rw [<- hn']; show n = 60; omega)
  have hx := fun m => tk_text h hz hn hbase hok hln hlb hr haz (hS m) rfl hL h60
  replace hx := zz hx
  replace hn' := zz hn'
  clear h hok hlb hr hS hst hL
  go_enter Tryz.func43, Tryz.ntmps43
  go_wp2
  go_quiet (fail)
  go_wp2_with (go_at_call 75; refine (hx.out nq).mono ?_; rintro e w1 ⟨ok, rfl, k1⟩)
  go_ret
  exact k1.out
end
section
open Go.RowKit
structure RowG (w : World) (lv : Value) (gs : List GT) : Prop where
 ex : ∃ cs, w.ownsRow 0 28 6 lv gs.length cs /\ TokG w (fun k => lv.ownBlock ≠ some k) gs cs
theorem RowG.old {w w' : World} {lv : Value} {gs : List GT} (h : RowG w lv gs) (f : Old w w') : RowG w' lv gs := by
 obtain ⟨cs, h1, h2⟩ := h.ex
 exact ⟨cs, ownsRow_frame h1 f (fun _ _ h => h), h2.keep f (fun k _ hk => ⟨fun h => h, hk⟩)⟩
theorem SQ.row {P : Nat} {s : ByteArray} {base : Nat} {w : World} {a : Nat} {q : PV} {vd : Int} {gs : List GT} {opn : List ByteArray} {bnd : List (List (ByteArray × ByteArray))} (h : SQ P s base w a q vd gs opn bnd) : RowG w q.ov gs := by
 obtain ⟨cs, h1, h2⟩ := h.out
 exact ⟨cs, h1, h2.keep (Fr.refl (fun _ => False) w) (fun k _ hk => ⟨fun h => h, fun e => hk (.inr (.inl e))⟩)⟩
structure ReadP (s : ByteArray) (w : World) (e : Ending) (w' : World) : Prop where
 old : Old w w'
 ex : ∃ (lv : Value) (vd : Int), e = .returned (.tuple #[lv, .int .i64 vd]) /\ (vd = 0 -> ∃ gs, RowG w' lv gs /\ gs.length <= 200000 /\ ((∀ g ∈ gs, PlG g) -> ∃ items, srcI items = s.data.toList /\ docOk [] items /\ gs.map GT.er = (toksI items).map gtOf))
theorem read_do (s : ByteArray) (w : World) (hz : s.size <= 65536) :
  Calls Tryz.prog 17 #[.string s, .bool false, .slice none 0 0, .string ⟨#[]⟩] w (ReadP s w) := by
 obtain ⟨P, hP⟩ : ∃ P, P = w.heap.size := ⟨_, rfl⟩
 obtain ⟨W0, hW0⟩ : ∃ W0, W0 = w.alloc (.cells #[.string s, .int .i64 0, .bool false, .slice none 0 0, .string ⟨#[]⟩, .slice none 0 0, .slice none 0 0, .slice none 0 0, .int .i64 0] 88) := ⟨_, rfl⟩
 have hB0 : PB W0 P s 0 ⟨.slice none 0 0, .slice none 0 0, .slice none 0 0⟩ 0 := by rw [hW0, hP]; exact Blk.new w _ _
 have hQ0 : SQ P s w.heap.size W0 0 ⟨.slice none 0 0, .slice none 0 0, .slice none 0 0⟩ 0 [] [] [] :=
  ⟨hB0, ⟨[], World.ownsRow_nil _ _ _ _, rfl⟩, World.ownsRow_nil _ _ _ _, ⟨[], World.ownsRow_nil _ _ _ _, rfl⟩, fun k hk => (by cases hk), fun k hk => (by cases hk), fun k hk => (by cases hk), fun x hx => by
   rcases hx with rfl | hx | hx | hx
   ·omega
   all_goals cases hx⟩
 have hO0 : Old w W0 := by rw [hW0]; exact (Fr.refl _ w).alloc _
 have hR0 : RdI s 0 [] [] := ⟨fun _ => ⟨[], [], by simp [srcI], DocPre.nil, rfl, fun _ h => (by cases h), rfl, fun u hu => by cases hu⟩⟩
 replace hQ0 := zz hQ0
 replace hO0 := zz hO0
 replace hR0 := zz hR0
 clear hB0
 go_enter Tryz.func17, Tryz.ntmps17
 go_wp2
 rw [<- hW0, <- hP]
 replace hW0 := zz hW0
 replace hP := zz hP
 go_loopg [] s.size (fun k wr => ∃ (a : Nat) (q : PV) (gs : List GT) (opn : List ByteArray) (bnd : List (List (ByteArray × ByteArray))), a + k = s.size /\ SQ P s w.heap.size wr a q 0 gs opn bnd /\ Old w wr /\ BOk bnd /\ bnd.length = opn.length /\ gs.length <= 2 * a /\ opn.length <= a /\ RdI s a gs opn)
 case atStart => exact ⟨0, _, [], [], [], by omega, hQ0.out, hO0.out, fun x hx => (by cases hx), rfl, Nat.zero_le _, Nat.le_refl _, hR0.out⟩
 case round =>
  obtain ⟨a, q, gs, opn, bnd, hak, hq, ho, hok, hlb, hg, hl, hr⟩ := hrel
  obtain ⟨W1, rfl⟩ : ∃ W1, W1 = wr := ⟨_, rfl⟩
  have hst := SP.start hq.blk
  have hwW := ho.size
  by_cases ha : a < s.size
  ·have he := (hst.endN ha).mono (R' := fun e w' => e = .returned (.bool false) /\ Hid (SP P s q 0 W1 a w')) (fun e w' x => ⟨x.1, hst.drw x.2⟩)
   have htk := fun (w1 : World) (k : SP P s q 0 W1 a w1) => (token_do P s w.heap.size w1 a q 0 gs opn bnd (hq.sp k) (by omega) (by omega) (Nat.le_trans hwW k.2.size) hok (by omega) hlb hr ha).mono (R' := fun e w' => ∃ ok : Bool, e = .returned (.bool ok) /\ Hid (TokP P s w.heap.size a q 0 gs opn w1 (.returned (.bool ok)) w' /\ FrP P W1 w1)) (by
    intro e w' hk
    obtain ⟨ok, h1, h2⟩ := hk.ex
    subst h1
    exact ⟨ok, rfl, hk, k.2⟩)
   replace he := zz he
   replace htk := zz htk
   replace hq := zz hq
   replace ho := zz ho
   replace hr := zz hr
   replace hok := zz hok
   replace hlb := zz hlb
   replace hak := zz hak
   clear hst
   go_upto_if 22 with (first
    | (go_at_call 43; refine (htk.out _ k2.out).mono ?_; rintro e w3 ⟨ok, rfl, k3⟩)
    | (go_at_call 42; refine he.out.mono ?_; rintro e w2 ⟨rfl, k2⟩))
   have hold2 : Old w w2 := ho.out.trans k2.out.2 (fun x hx => .inr (by have h : x = P := hx; have := hP.out; omega))
   cases ok
   ·obtain ⟨ok, h1, h2⟩ := k3.out.1.ex
    obtain rfl : ok = false := by injection h1 with e1; injection e1 with e1; exact e1.symm
    obtain ⟨⟨a', q', vd', hvd, hB3⟩, hF3⟩ := (h2.resolve_right (fun h => by cases h.1)).2
    have hold3 : Old w w3 := hold2.trans hF3 (fun x hx => .inr hx)
    obtain ⟨_, _, _, _, _, c5, _, _, c8, _⟩ := hB3.c
    have hold4 := fun n => hold3.drewN n
    obtain ⟨ov, hov⟩ : ∃ ov, ov = q'.ov := ⟨_, rfl⟩
    rw [<- hov] at c5
    replace hov := zz hov
    replace hold4 := zz hold4
    clear k3 hF3 hold3 hB3 hold2 h1 h2
    go_wp2
    go_quiet (fail)
    go_wp2
    go_ret2
    exact ⟨hold4.out _, ov, vd', rfl, fun e => absurd e hvd⟩
   ·obtain ⟨ok, h1, h2⟩ := k3.out.1.ex
    obtain rfl : ok = true := by injection h1 with e1; injection e1 with e1; exact e1.symm
    obtain ⟨_, q', a', gs', opn', bnd', e1, e2, e3, e4, e5, e6, e7, e8, e9⟩ := h2.resolve_left (fun h => by cases h.1)
    have hold3 : Old w w3 := hold2.trans e4.fr (fun x hx => .inr (by have := (hq.out.sp k2.out).lo x hx; omega))
    replace e3 := zz e3
    replace e5 := zz e5
    replace e6 := zz e6
    replace e9 := zz e9
    replace hold3 := zz hold3
    clear k3 hold2 h1 h2 e4
    go_wp2
    go_roundg (s.size - a')
    case measure => have := hak.out; omega
    case rel => exact ⟨a', q', gs', opn', bnd', by omega, e3.out, hold3.out, e5.out, e6.out, by omega, by omega, e9.out⟩
  ·have he := (hst.endY (by omega)).mono (R' := fun e w' => e = .returned (.bool true) /\ Hid (SP P s q 0 W1 a w')) (fun e w' x => ⟨x.1, hst.drw x.2⟩)
   have hpv := ownsRow_shape hq.opn
   have haz : a = s.size := by omega
   have hcs := fun (w1 : World) (k : SP P s q 0 W1 a w1) => k.1.c
   have hrow := fun (w1 : World) (k : SP P s q 0 W1 a w1) => (hq.sp k).row
   have hold := fun (w1 : World) (k : SP P s q 0 W1 a w1) => ho.trans k.2 (fun x hx => .inr (by have h : x = P := hx; have := hP.out; omega))
   have hgl : gs.length <= 200000 := by omega
   have hfin : opn.length = 0 -> (∀ g ∈ gs, PlG g) -> ∃ items, srcI items = s.data.toList /\ docOk [] items /\ gs.map GT.er = (toksI items).map gtOf := fun h0 hp => by
    obtain ⟨items, o, f1, f2, f3, _, f5, _⟩ := hr.ex hp
    have ho0 : o = [] := by
     have := congrArg List.length f3
     rw [h0] at this
     simp [opnOf] at this
     exact List.length_eq_zero_iff.1 this.symm
    subst ho0
    refine ⟨items, ?_, f2.fin, f5⟩
    rw [<- f1, haz, Lib.size_eq, List.take_length]
   obtain ⟨p6, k6, hp6⟩ := hpv
   obtain ⟨ov, hov⟩ : ∃ ov, ov = q.ov := ⟨_, rfl⟩
   rw [<- hov] at hcs hrow
   rw [hp6] at hcs
   obtain ⟨m, hm⟩ : ∃ m, m = opn.length := ⟨_, rfl⟩
   rw [<- hm] at hfin hcs
   replace he := zz he
   replace hcs := zz hcs
   replace hrow := zz hrow
   replace hold := zz hold
   replace hfin := zz hfin
   replace hov := zz hov
   replace hm := zz hm
   clear hst hq ho hr hp6 hok hlb hak haz
   rcases Nat.eq_zero_or_pos m with h0 | h0
   ·subst h0
    replace hfin := zz (hfin.out rfl)
    go_wp2_with (go_at_call 42; refine he.out.mono ?_; rintro e w2 ⟨rfl, k2⟩; obtain ⟨_, _, _, _, _, c5, c6, _⟩ := hcs.out _ k2.out)
    go_ret2
    exact ⟨hold.out _ k2.out, ov, 0, rfl, fun _ => ⟨gs, hrow.out _ k2.out, hgl, hfin.out⟩⟩
   ·have i1 : (0 : Int) < (m : Int) := by omega
    go_wp2_with (go_at_call 42; refine he.out.mono ?_; rintro e w2 ⟨rfl, k2⟩; obtain ⟨_, _, _, _, _, c5, c6, _⟩ := hcs.out _ k2.out)
    go_ret2
    exact ⟨hold.out _ k2.out, ov, 1, rfl, fun e => by cases e⟩
end
end Go.Proofs.YtepbbahdhhjibaaGreatDoor
