/- own text -/
import Derived.Test.YtepbbahdhhjibaaGreatDoorD12
namespace Go.Proofs.YtepbbahdhhjibaaGreatDoor
set_option linter.unusedSimpArgs false
set_option linter.unusedVariables false
set_option maxHeartbeats 8000000
set_option maxRecDepth 1000000
section
open Go.RowKit
def gE (D : Nat) (n : Int) (u : Nat -> Value) : Nat -> Value
 | 0 => .pointer (some ⟨D, 0, none⟩)
 | 6 => .slice none 0 0
 | 9 => .int .i64 n
 | k => u k
theorem FrE.eq {D : Nat} {n : Int} {t : Array Value} (h : FrE D n t) : t = ((List.range 381).map (gE D n (fun k => t.getD k (.bool false)))).toArray := by
 apply arr_range t 381 _ h.size
 intro k hk
 have hd : t[k]? = some (t.getD k (.bool false)) := by
  have hk2 : k < t.size := by rw [h.size]; exact hk
  simp [hk2]
 unfold gE
 split
 ·exact h.s0
 ·exact h.s6
 ·exact h.s9
 ·exact hd
theorem gE_lit (D : Nat) (n : Int) (u : Nat -> Value) : ((List.range 381).map (gE D n u)).toArray = #[.pointer (some ⟨D, 0, none⟩), u 1, u 2, u 3, u 4, u 5, .slice none 0 0, u 7, u 8, .int .i64 n, u 10, u 11, u 12, u 13, u 14, u 15, u 16, u 17, u 18, u 19, u 20, u 21, u 22, u 23, u 24, u 25, u 26, u 27, u 28, u 29, u 30, u 31, u 32, u 33, u 34, u 35, u 36, u 37, u 38, u 39, u 40, u 41, u 42, u 43, u 44, u 45, u 46, u 47, u 48, u 49, u 50, u 51, u 52, u 53, u 54, u 55, u 56, u 57, u 58, u 59, u 60, u 61, u 62, u 63, u 64, u 65, u 66, u 67, u 68, u 69, u 70, u 71, u 72, u 73, u 74, u 75, u 76, u 77, u 78, u 79, u 80, u 81, u 82, u 83, u 84, u 85, u 86, u 87, u 88, u 89, u 90, u 91, u 92, u 93, u 94, u 95, u 96, u 97, u 98, u 99, u 100, u 101, u 102, u 103, u 104, u 105, u 106, u 107, u 108, u 109, u 110, u 111, u 112, u 113, u 114, u 115, u 116, u 117, u 118, u 119, u 120, u 121, u 122, u 123, u 124, u 125, u 126, u 127, u 128, u 129, u 130, u 131, u 132, u 133, u 134, u 135, u 136, u 137, u 138, u 139, u 140, u 141, u 142, u 143, u 144, u 145, u 146, u 147, u 148, u 149, u 150, u 151, u 152, u 153, u 154, u 155, u 156, u 157, u 158, u 159, u 160, u 161, u 162, u 163, u 164, u 165, u 166, u 167, u 168, u 169, u 170, u 171, u 172, u 173, u 174, u 175, u 176, u 177, u 178, u 179, u 180, u 181, u 182, u 183, u 184, u 185, u 186, u 187, u 188, u 189, u 190, u 191, u 192, u 193, u 194, u 195, u 196, u 197, u 198, u 199, u 200, u 201, u 202, u 203, u 204, u 205, u 206, u 207, u 208, u 209, u 210, u 211, u 212, u 213, u 214, u 215, u 216, u 217, u 218, u 219, u 220, u 221, u 222, u 223, u 224, u 225, u 226, u 227, u 228, u 229, u 230, u 231, u 232, u 233, u 234, u 235, u 236, u 237, u 238, u 239, u 240, u 241, u 242, u 243, u 244, u 245, u 246, u 247, u 248, u 249, u 250, u 251, u 252, u 253, u 254, u 255, u 256, u 257, u 258, u 259, u 260, u 261, u 262, u 263, u 264, u 265, u 266, u 267, u 268, u 269, u 270, u 271, u 272, u 273, u 274, u 275, u 276, u 277, u 278, u 279, u 280, u 281, u 282, u 283, u 284, u 285, u 286, u 287, u 288, u 289, u 290, u 291, u 292, u 293, u 294, u 295, u 296, u 297, u 298, u 299, u 300, u 301, u 302, u 303, u 304, u 305, u 306, u 307, u 308, u 309, u 310, u 311, u 312, u 313, u 314, u 315, u 316, u 317, u 318, u 319, u 320, u 321, u 322, u 323, u 324, u 325, u 326, u 327, u 328, u 329, u 330, u 331, u 332, u 333, u 334, u 335, u 336, u 337, u 338, u 339, u 340, u 341, u 342, u 343, u 344, u 345, u 346, u 347, u 348, u 349, u 350, u 351, u 352, u 353, u 354, u 355, u 356, u 357, u 358, u 359, u 360, u 361, u 362, u 363, u 364, u 365, u 366, u 367, u 368, u 369, u 370, u 371, u 372, u 373, u 374, u 375, u 376, u 377, u 378, u 379, u 380] := by kernel_rfl
theorem inBlock_exit {id : Nat} {Q : Exit -> Act -> World -> Prop} {a : Act} {w : World} (h : Q .normal a w) : Exit.inBlock id Q (.exit id) a w := by
 show (if id = id then Q .normal a w else Q (.exit id) a w)
 rw [if_pos rfl]; exact h
theorem then_normal {next : Act -> World -> Prop} {Q : Exit -> Act -> World -> Prop} {a : Act} {w : World} (h : next a w) : Exit.then next Q .normal a w := h
theorem noGoto_ret {Q : Exit -> Act -> World -> Prop} {a : Act} {w : World} (h : Q .ret a w) : Exit.noGoto Q .ret a w := h
theorem nb_nil {rs : List Nat} (h : nb rs = []) : rs = [] := by
 cases rs with
 | nil => rfl
 | cons r t => rw [nb_cons] at h; have := (u8_len r).1; rw [(List.append_eq_nil_iff.1 h).1] at this; simp at this
theorem elsOut_le {q : List UInt8} {chk refs : Bool} : ∀ {c0 c1 : UInt8} {l : List El}, elsOk q chk refs c0 c1 l -> (elsOut c1 l).length <= (srcs l).length := by
 intro c0 c1 l
 induction l generalizing c0 c1 with
 | nil => intro _; simp [elsOut]
 | cons e l ih =>
  intro h
  have h1 := El.out_le h.1
  have h2 := ih h.2
  rw [srcs_cons]
  simp only [elsOut, List.length_append]
  omega
theorem elsOut_nil {q : List UInt8} {chk refs : Bool} {c0 : UInt8} {l : List El} (_ : elsOk q chk refs c0 0 l) (ho : elsOut 0 l = []) : l = [] := by
 cases l with
 | nil => rfl
 | cons e l =>
  exfalso
  simp only [elsOut] at ho
  have h1 := (List.append_eq_nil_iff.1 ho).1
  cases e with
  | «by» c =>
   simp only [El.out] at h1
   split at h1
   ·simp at h1
   ·rw [if_neg (fun h => absurd h.1 (by decide))] at h1; simp at h1
  | num hex ds => simp only [El.out] at h1; have := (u8_len (numFrom (El.base hex) 0 ds)).1; rw [h1] at this; simp at this
  | nam s r => simp only [El.out] at h1; have := (u8_len r).1; rw [h1] at this; simp at this
def Ret (w : World) (v vr : Value) (data : List UInt8) : Prop :=
 (vr = .slice none 0 0 /\ v = .slice none 0 0 /\ data = []) \/ ∃ g cap, vr = .slice (some ⟨g, 0, none⟩) data.length cap /\ v.ownBlock = some g /\ data.length <= cap /\ Lies w g 0 data
theorem text_gen (E : Dx) (p : Pa) (q : Int) (cd : Bool) (v0 : Value) (bs : List UInt8) (eo : Bool) (strm tl2 out : List UInt8) (rs : List Nat) (n : Nat) (w0 : World)
  (hD : Dec E w0 p v0 bs true false strm) (hout : out.take (out.length - n) = nb rs) (hn : n <= out.length) (hrs : ∀ r ∈ rs, isCh r = true) (hol : out.length <= 1099511627000)
  (hloop : ∀ (v0 : Value) (t : Array Value) (w : World) (Q0 : Exit -> Act -> World -> Prop), FrT E.D (.int .i64 q) (.bool cd) 0 0 t -> Dec E w p v0 [] true false strm ->
   (∀ (t' : Array Value) (w' : World) (v' : Value), FrE E.D n t' -> Dec E w' p v' out true eo tl2 -> St E w v0 w' v' -> (out = [] -> v' = v0) -> Q0 (.exit 0) ⟨t', []⟩ w') -> (Code.loop body113).wp Tryz.prog Q0 ⟨t, []⟩ w) :
  Calls Tryz.prog 113 #[.pointer (some ⟨E.D, 0, none⟩), .int .i64 q, .bool cd] w0 fun e w' => ∃ vr v', e = .returned vr /\ Dec E w' p v' out true eo tl2 /\ St E w0 v0 w' v' /\ Ret w' v' vr (nb rs) /\ (v0 ≠ .slice none 0 0 -> vr ≠ .slice none 0 0) := by
 have hr := (breset E p v0 bs strm true false w0 hD).mono (R' := fun e w' => e = .returned (.tuple #[]) /\ Hid (∃ v', Dec E w' p v' [] true false strm /\ St E w0 v0 w' v' /\ (v0 = .slice none 0 0 ↔ v' = .slice none 0 0))) (fun _ _ h => h)
 replace hloop := zz hloop
 replace hout := zz hout
 replace hrs := zz hrs
 clear hD
 go_enter Tryz.func113, Tryz.ntmps113
 go_wp2
 go_step3
 go_wp2_with (first | (go_at_call 118; refine hr.mono ?_; rintro e w1 ⟨rfl, k1⟩))
 go_step3
 go_wp2
 obtain ⟨v1, d1, s1, hnil⟩ := k1.out
 refine hloop.out v1 _ w1 _ ⟨rfl, rfl, rfl, rfl, rfl, rfl, rfl, rfl⟩ d1 ?_
 intro t' w2 v2 ht2 d2 s2 hv2
 rw [ht2.eq]
 generalize (fun k => t'.getD k (Value.bool false)) = u
 rw [gE_lit]
 refine inBlock_exit (then_normal ?_)
 have hby := (bbytes E p v2 _ _ _ _ w2 d2)
 have hSS := s1.trans s2
 rcases d2.row with ⟨hv, ho⟩ | ⟨g, cap, cells, hv, hg, hcs, hle, hcm, h64, htk⟩
 ·have hd : nb rs = [] := by rw [<- hout.out, ho]; simp
  have hrs0 := nb_nil hd
  subst hrs0
  subst hv
  rw [ho] at hn
  have hn0 : n = 0 := by simpa using hn
  subst hn0
  have hnv : v0 = .slice none 0 0 := by
   by_cases h : v0 = .slice none 0 0
   ·exact h
   ·exact absurd (hnil.2 (by rw [<- hv2 ho])) h
  replace d2 := zz d2
  replace hSS := zz hSS
  replace hnv := zz hnv
  clear s1 s2 hv2 d1 k1 hr hnil ho hout hrs hloop ht2 hd
  go_wp2_with (first | (go_at_call 120; refine hby.mono ?_; rintro e w3 ⟨rfl, n3, rfl⟩))
  refine wp_loop_rounds 1 ?_
  rw [rounds_succ]
  go_wp2
  refine noGoto_ret ?_
  go_ret
  exact ⟨_, _, rfl, d2.out.drewN _, hSS.out.drewN _, Or.inl ⟨rfl, rfl, rfl⟩, fun h => absurd hnv.out h⟩
 ·subst hv
  have hm : (nb rs).length = out.length - n := by rw [<- hout.out, List.length_take]; omega
  have hL : Lies w2 g 0 (nb rs) := by
   intro j c hj
   have h1 := (BufRow.lies d2.row).2.2
   refine h1 j c ?_
   rw [<- hout.out, List.getElem?_take] at hj
   split at hj
   ·exact hj
   ·simp at hj
  obtain ⟨M, hM⟩ : ∃ M, M = (nb rs).length := ⟨_, rfl⟩
  obtain ⟨O, hO⟩ : ∃ O, O = out.length := ⟨_, rfl⟩
  have hut := d2.ut
  rw [<- hM, <- hO] at hm
  rw [<- hO] at hby hle hn hol
  have hsub : IntKind.i64.wrap ((O : Int) - (n : Int)) = (M : Int) := by rw [IntWalk.i64_in _ (by omega)]; omega
  have hMc : (M : Int) <= cap := by omega
  have hMcN : M <= cap := by omega
  have hMO : M <= O := by omega
  replace d2 := zz d2
  replace hSS := zz hSS
  replace hL := zz hL
  replace hut := zz hut
  replace hM := zz hM
  replace hO := zz hO
  replace hm := zz hm
  clear s1 s2 hv2 d1 k1 hr hnil hout hloop ht2 hg hcs htk h64
  go_wp2_with (first | (go_at_call 120; refine hby.mono ?_; rintro e w3 ⟨rfl, n3, rfl⟩))
  go_loopg [6, 27] rs.length (fun k s6 s27 wr => s6 = .slice none 0 0 /\ ∃ (o m c : Nat) (rt : List Nat), s27 = .slice (some ⟨g, o, none⟩) m c /\ rt.length = k /\ m = (nb rt).length /\ m <= c /\ m <= 1099511627000 /\ Lies wr g o (nb rt) /\ Old w2 wr /\ ∀ r ∈ rt, isCh r = true)
  case atStart => exact ⟨rfl, 0, M, cap, rs, rfl, rfl, hM.out, by omega, by omega, hL.out, (Fr.refl _ w2).drewN _, hrs.out⟩
  case round =>
   obtain ⟨rfl, o, m, c, rt, rfl, hk, hm2, hmc, hm3, hLr, hOr, hR⟩ := hrel
   replace hOr := zz hOr
   cases rt with
   | nil =>
    have hm0 : m = 0 := by rw [hm2]; rfl
    subst hm0
    clear hLr hR hm2
    go_wp2
    refine noGoto_ret ?_
    go_ret
    refine ⟨.slice (some ⟨g, 0, none⟩) M cap, _, rfl, d2.out.old hOr.out, hSS.out.trans ⟨Fr.of_old hOr.out, Nw.refl _ _⟩, Or.inr ⟨g, cap, by rw [hM.out], rfl, by rw [<- hM.out]; exact hMcN, hL.out.old hOr.out⟩, by simp⟩
   | cons r rt =>
    have hch := hR r (by simp)
    have hl1 := (u8_len r)
    have hml : m = (u8 r).length + (nb rt).length := by rw [hm2, nb_cons, List.length_append]
    have hdr := (decRune r (isCh_ok hch) (nb rt) g o m c wr (hut.out.fr hOr.out (fun h => h) (fun h => h)) (by rw [<- nb_cons]; exact hLr) (by rw [hm2, nb_cons])).mono (R' := fun e w' => e = .returned (.tuple #[.int .i32 r, .int .i64 (u8 r).length]) /\ Hid (Old wr w')) (fun _ _ h => h)
    have hin := fun w => inRange_do r hch w
    replace hin := zz hin
    have hLr2 : Lies wr g (o + (u8 r).length) (nb rt) := by rw [nb_cons] at hLr; exact hLr.drop
    have hR2 : ∀ x ∈ rt, isCh x = true := fun x hx => hR x (by simp [hx])
    replace hLr2 := zz hLr2
    replace hR2 := zz hR2
    replace hk := zz hk
    have hbad : ((r : Int) == 65533) = true -> (((u8 r).length : Int) == 1) = false := by
     intro h
     rw [beq_iff_eq] at h
     have : r = 65533 := by omega
     subst this
     decide
    clear hLr hR hm2 hch
    obtain ⟨K, hK⟩ : ∃ K, K = (u8 r).length := ⟨_, rfl⟩
    obtain ⟨T, hT⟩ : ∃ T, T = (nb rt).length := ⟨_, rfl⟩
    rw [<- hK] at hdr hLr2 hbad hl1
    rw [<- hK, <- hT] at hml
    replace hK := zz hK
    replace hT := zz hT
    have e1 : K <= m := by omega
    have e2 : (K : Int) <= m := by omega
    have e3 : m - K = T := by omega
    have e4 : (0 : Int) < m := by omega
    have e5 : c = K -> T = 0 := by omega
    have e6 : m - K <= c - K := by omega
    have e7 : m - K <= 1099511627000 := by omega
    replace e3 := zz e3
    replace e5 := zz e5
    replace hml := zz hml
    replace hO := zz hO
    by_cases hcK : c = K
    ·have hT0 := e5.out hcK
     have e8 : m - K <= 0 := by have := e3.out; omega
     have e9 : Hid (T = 0) := zz hT0
     have hL0 : Hid (Lies wr g o (nb rt)) := zz (by
      intro j c' hj
      have hl0 : (nb rt).length = 0 := by rw [<- hT.out]; exact hT0
      rw [List.length_eq_zero_iff.1 hl0] at hj
      simp at hj)
     clear hT0 e6
     subst hcK
     by_cases h65 : ((r : Int) == 65533) = true
     ·have h1 := hbad h65
      clear hbad
      go_wp2_with (first | (go_at_call 100; refine hdr.mono ?_; rintro e w4 ⟨rfl, k4⟩) | (go_at_call 101; refine (hin.out _).mono ?_; rintro e w5 ⟨rfl, rfl⟩))
      go_roundg rt.length
      case measure => have := hk.out; simp at this; omega
      case rel => exact ⟨rfl, o, 0, 0, rt, rfl, rfl, by rw [<- hT.out, e9.out], Nat.le_refl 0, Nat.zero_le _, hL0.out.old k4.out, hOr.out.old k4.out, hR2.out⟩
     ·have h65 : ((r : Int) == 65533) = false := by simpa using h65
      clear hbad
      go_wp2_with (first | (go_at_call 100; refine hdr.mono ?_; rintro e w4 ⟨rfl, k4⟩) | (go_at_call 101; refine (hin.out _).mono ?_; rintro e w5 ⟨rfl, rfl⟩))
      go_roundg rt.length
      case measure => have := hk.out; simp at this; omega
      case rel => exact ⟨rfl, o, 0, 0, rt, rfl, rfl, by rw [<- hT.out, e9.out], Nat.le_refl 0, Nat.zero_le _, hL0.out.old k4.out, hOr.out.old k4.out, hR2.out⟩
    ·by_cases h65 : ((r : Int) == 65533) = true
     ·have h1 := hbad h65
      clear hbad
      go_wp2_with (first | (go_at_call 100; refine hdr.mono ?_; rintro e w4 ⟨rfl, k4⟩) | (go_at_call 101; refine (hin.out _).mono ?_; rintro e w5 ⟨rfl, rfl⟩))
      go_roundg rt.length
      case measure => have := hk.out; simp at this; omega
      case rel => exact ⟨rfl, o + K, m - K, c - K, rt, rfl, rfl, by rw [e3.out, hT.out], e6, e7, hLr2.out.old k4.out, hOr.out.old k4.out, hR2.out⟩
     ·have h65 : ((r : Int) == 65533) = false := by simpa using h65
      clear hbad
      go_wp2_with (first | (go_at_call 100; refine hdr.mono ?_; rintro e w4 ⟨rfl, k4⟩) | (go_at_call 101; refine (hin.out _).mono ?_; rintro e w5 ⟨rfl, rfl⟩))
      go_roundg rt.length
      case measure => have := hk.out; simp at this; omega
      case rel => exact ⟨rfl, o + K, m - K, c - K, rt, rfl, rfl, by rw [e3.out, hT.out], e6, e7, hLr2.out.old k4.out, hOr.out.old k4.out, hR2.out⟩
theorem text_lt (E : Dx) (p : Pa) (tl : List UInt8) (l : List El) (rs : List Nat) (v0 : Value) (bs : List UInt8) (w0 : World) (hD : Dec E w0 p v0 bs true false (srcs l ++ 60 :: tl)) (hlo : elsOk [60, 38] true true 0 0 l) (hl : (srcs l).length <= 1099511627000) (hrs : ∀ r ∈ rs, isCh r = true) (hout : elsOut 0 l = nb rs) :
  Calls Tryz.prog 113 #[.pointer (some ⟨E.D, 0, none⟩), .int .i64 (-1), .bool false] w0 fun e w' => ∃ vr v', e = .returned vr /\ Dec E w' p v' (elsOut 0 l) true false (60 :: tl) /\ St E w0 v0 w' v' /\ Ret w' v' vr (nb rs) /\ (v0 ≠ .slice none 0 0 -> vr ≠ .slice none 0 0) := by
 refine text_gen E p (-1) false v0 bs false _ _ _ rs 0 w0 hD (by rw [hout]; simp) (Nat.zero_le _) hrs (Nat.le_trans (elsOut_le hlo) hl) ?_
 intro v0 t w Q0 ht hD hQ
 refine text_loop_lt E p tl l v0 t w Q0 ht hlo hD hl ?_
 intro t' w' v' ht' hD' hS' hv
 exact hQ t' w' v' ht' hD' hS' (fun ho => hv (elsOut_nil hlo ho))
theorem text_eof (E : Dx) (p : Pa) (l : List El) (rs : List Nat) (v0 : Value) (bs : List UInt8) (w0 : World) (hD : Dec E w0 p v0 bs true false (srcs l ++ [])) (hlo : elsOk [60, 38] true true 0 0 l) (hl : (srcs l).length <= 1099511627000) (hrs : ∀ r ∈ rs, isCh r = true) (hout : elsOut 0 l = nb rs) :
  Calls Tryz.prog 113 #[.pointer (some ⟨E.D, 0, none⟩), .int .i64 (-1), .bool false] w0 fun e w' => ∃ vr v', e = .returned vr /\ Dec E w' p v' (elsOut 0 l) true true ([]) /\ St E w0 v0 w' v' /\ Ret w' v' vr (nb rs) /\ (v0 ≠ .slice none 0 0 -> vr ≠ .slice none 0 0) := by
 refine text_gen E p (-1) false v0 bs true _ _ _ rs 0 w0 hD (by rw [hout]; simp) (Nat.zero_le _) hrs (Nat.le_trans (elsOut_le hlo) hl) ?_
 intro v0 t w Q0 ht hD hQ
 refine text_loop_eof E p l v0 t w Q0 ht hlo hD hl ?_
 intro t' w' v' ht' hD' hS' hv
 exact hQ t' w' v' ht' hD' hS' (fun ho => hv (elsOut_nil hlo ho))
theorem text_q34 (E : Dx) (p : Pa) (tl : List UInt8) (l : List El) (rs : List Nat) (v0 : Value) (bs : List UInt8) (w0 : World) (hD : Dec E w0 p v0 bs true false (srcs l ++ 34 :: tl)) (hlo : elsOk [60, 38, 34] false true 0 0 l) (hl : (srcs l).length <= 1099511627000) (hrs : ∀ r ∈ rs, isCh r = true) (hout : elsOut 0 l = nb rs) :
  Calls Tryz.prog 113 #[.pointer (some ⟨E.D, 0, none⟩), .int .i64 34, .bool false] w0 fun e w' => ∃ vr v', e = .returned vr /\ Dec E w' p v' (elsOut 0 l) true false (tl) /\ St E w0 v0 w' v' /\ Ret w' v' vr (nb rs) /\ (v0 ≠ .slice none 0 0 -> vr ≠ .slice none 0 0) := by
 refine text_gen E p 34 false v0 bs false _ _ _ rs 0 w0 hD (by rw [hout]; simp) (Nat.zero_le _) hrs (Nat.le_trans (elsOut_le hlo) hl) ?_
 intro v0 t w Q0 ht hD hQ
 refine text_loop_q34 E p tl l v0 t w Q0 ht hlo hD hl ?_
 intro t' w' v' ht' hD' hS' hv
 exact hQ t' w' v' ht' hD' hS' (fun ho => hv (elsOut_nil hlo ho))
theorem text_q39 (E : Dx) (p : Pa) (tl : List UInt8) (l : List El) (rs : List Nat) (v0 : Value) (bs : List UInt8) (w0 : World) (hD : Dec E w0 p v0 bs true false (srcs l ++ 39 :: tl)) (hlo : elsOk [60, 38, 39] false true 0 0 l) (hl : (srcs l).length <= 1099511627000) (hrs : ∀ r ∈ rs, isCh r = true) (hout : elsOut 0 l = nb rs) :
  Calls Tryz.prog 113 #[.pointer (some ⟨E.D, 0, none⟩), .int .i64 39, .bool false] w0 fun e w' => ∃ vr v', e = .returned vr /\ Dec E w' p v' (elsOut 0 l) true false (tl) /\ St E w0 v0 w' v' /\ Ret w' v' vr (nb rs) /\ (v0 ≠ .slice none 0 0 -> vr ≠ .slice none 0 0) := by
 refine text_gen E p 39 false v0 bs false _ _ _ rs 0 w0 hD (by rw [hout]; simp) (Nat.zero_le _) hrs (Nat.le_trans (elsOut_le hlo) hl) ?_
 intro v0 t w Q0 ht hD hQ
 refine text_loop_q39 E p tl l v0 t w Q0 ht hlo hD hl ?_
 intro t' w' v' ht' hD' hS' hv
 exact hQ t' w' v' ht' hD' hS' (fun ho => hv (elsOut_nil hlo ho))
theorem text_cd (E : Dx) (p : Pa) (tl : List UInt8) (l : List El) (rs : List Nat) (v0 : Value) (bs : List UInt8) (w0 : World) (hD : Dec E w0 p v0 bs true false (srcs l ++ 62 :: tl)) (hlo : elsOk [] true false 0 0 l) (hE : elsEnd 0 0 l = (93, 93)) (hl : (srcs l).length <= 1099511627000) (hrs : ∀ r ∈ rs, isCh r = true) (hout : elsOut 0 l = nb rs ++ [93, 93]) :
  Calls Tryz.prog 113 #[.pointer (some ⟨E.D, 0, none⟩), .int .i64 (-1), .bool true] w0 fun e w' => ∃ vr v', e = .returned vr /\ Dec E w' p v' (elsOut 0 l) true false (tl) /\ St E w0 v0 w' v' /\ Ret w' v' vr (nb rs) /\ (v0 ≠ .slice none 0 0 -> vr ≠ .slice none 0 0) := by
 refine text_gen E p (-1) true v0 bs false _ _ _ rs 2 w0 hD (by rw [hout]; simp) (by rw [hout]; simp) hrs (Nat.le_trans (elsOut_le hlo) hl) ?_
 intro v0 t w Q0 ht hD hQ
 refine text_loop_cd E p tl l v0 t w Q0 ht hlo hE hD hl ?_
 intro t' w' v' ht' hD' hS' hv
 exact hQ t' w' v' ht' hD' hS' (fun ho => hv (elsOut_nil hlo ho))
end
section
open Go.RowKit
theorem Dec.cells {E : Dx} {w : World} {p : Pa} {v : Value} {bs strm : List UInt8} {nb eo : Bool} (h : Dec E w p v bs nb eo strm) :
  w.cell? ⟨E.D, 6, none⟩ = some .nilIface /\ w.cell? ⟨E.D, 20, none⟩ = some (if eo then E.eof else .nilIface) /\ w.cell? ⟨E.D, 14, none⟩ = some (.bool p.need) /\ w.cell? ⟨E.D, 0, none⟩ = some (.bool true) := by
 obtain ⟨x9, n, line, ls, off, rest, a, b, c⟩ := h.ex
 exact ⟨by rw [a.cell]; rfl, by rw [a.cell]; rfl, by rw [a.cell]; rfl, by rw [a.cell]; rfl⟩
theorem rawToken_end (E : Dx) (p : Pa) (v : Value) (bs : List UInt8) (w : World) (hp : p.need = false) (h : Dec E w p v bs true false []) :
  Calls Tryz.prog 66 #[.pointer (some ⟨E.D, 0, none⟩)] w fun e w' => e = .returned (.tuple #[.nilIface, E.eof]) /\ Dec E w' p v bs true true [] /\ St E w v w' v := by
 obtain ⟨c6, c20, c14, c0⟩ := h.cells
 rw [hp] at c14
 have hg := (getc_nil E p v bs true w h).mono (R' := fun e w' => e = .returned (.tuple #[.int .u8 0, .bool false]) /\ w'.cell? ⟨E.D, 20, none⟩ = some E.eof /\ Hid (Dec E w' p v bs false true [] /\ Fr E.rd w w')) (by
  rintro e w' ⟨h0, h1, h2⟩
  exact ⟨h0, h1.cells.2.1, h1, h2⟩)
 clear h
 have c20' : w.cell? ⟨E.D, 20, none⟩ = some .nilIface := c20
 clear c20
 generalize E.eof = eofv at *
 go_enter Tryz.func66, Tryz.ntmps66
 go_wp2_with (first | (go_at_call 111; refine hg.mono ?_; rintro e w1 ⟨rfl, k20, k1⟩))
 go_quiet (fail)
 go_wp2
 go_ret2
 exact ⟨rfl, k1.out.1.up.drewN _, (St.rd v k1.out.2).drewN _⟩
theorem Ret.slice {w : World} {v vr : Value} {d : List UInt8} (h : Ret w v vr d) (hd : vr ≠ .slice none 0 0) : ∃ g cap, vr = .slice (some ⟨g, 0, none⟩) d.length cap /\ v.ownBlock = some g /\ d.length <= cap /\ Lies w g 0 d := by
 rcases h with ⟨rfl, _⟩ | h
 ·exact absurd rfl hd
 ·exact h
theorem Ret.ne {w : World} {v vr : Value} {d : List UInt8} (h : Ret w v vr d) (hd : d ≠ []) : vr ≠ .slice none 0 0 := by
 rcases h with ⟨_, _, rfl⟩ | ⟨g, cap, rfl, _⟩
 ·exact absurd rfl hd
 ·simp
theorem rawToken_text_in (E : Dx) (p : Pa) (v : Value) (bs : List UInt8) (c : UInt8) (t out tl2 : List UInt8) (eo : Bool) (rs : List Nat) (w : World) (hp : p.need = false) (hc : c ≠ 60) (hne : nb rs ≠ []) (h : Dec E w p v bs true false (c :: t))
  (ht : ∀ w1, Dec E w1 p v bs true false (c :: t) -> Calls Tryz.prog 113 #[.pointer (some ⟨E.D, 0, none⟩), .int .i64 (-1), .bool false] w1 fun e w' => ∃ vr v', e = .returned vr /\ Dec E w' p v' out true eo tl2 /\ St E w1 v w' v' /\ Ret w' v' vr (nb rs) /\ (v ≠ .slice none 0 0 -> vr ≠ .slice none 0 0)) :
  Calls Tryz.prog 66 #[.pointer (some ⟨E.D, 0, none⟩)] w fun e w' => ∃ g cap v', e = .returned (.tuple #[.iface 113 (.slice (some ⟨g, 0, none⟩) (nb rs).length cap), .nilIface]) /\ Dec E w' p v' out true eo tl2 /\ St E w v w' v' /\ v'.ownBlock = some g /\ Lies w' g 0 (nb rs) := by
 obtain ⟨c6, c20, c14, c0⟩ := h.cells
 rw [hp] at c14
 have hg := (getc_cons E p v bs true c t w h).mono (R' := fun e w' => e = .returned (.tuple #[.int .u8 c.toNat, .bool true]) /\ Hid (Dec E w' p v bs false false t /\ Fr E.rd w w')) (fun _ _ h => h)
 have hun : ∀ w1, Dec E w1 p v bs false false t -> Calls Tryz.prog 112 #[.pointer (some ⟨E.D, 0, none⟩), .int .u8 c.toNat] w1 fun e w' => e = .returned (.tuple #[]) /\ Hid (Dec E w' p v bs true false (c :: t) /\ Fr E.rd w1 w') := fun w1 hd => ungetc_do' E p v _ c _ w1 hd
 have ht2 : ∀ w1, Dec E w1 p v bs true false (c :: t) -> Calls Tryz.prog 113 #[.pointer (some ⟨E.D, 0, none⟩), .int .i64 (-1), .bool false] w1 fun e w' => ∃ g m cap, e = .returned (.slice (some ⟨g, 0, none⟩) m cap) /\ Hid (m = (nb rs).length /\ ∃ v', Dec E w' p v' out true eo tl2 /\ St E w1 v w' v' /\ v'.ownBlock = some g /\ Lies w' g 0 (nb rs)) := fun w1 hd =>
  (ht w1 hd).mono (by
   rintro e w' ⟨vr, v', rfl, h1, h2, h3, _⟩
   obtain ⟨g, cap, rfl, h4, _, h5⟩ := h3.slice (h3.ne hne)
   exact ⟨g, _, cap, rfl, rfl, v', h1, h2, h4, h5⟩)
 have c20' : w.cell? ⟨E.D, 20, none⟩ = some .nilIface := c20
 have g60 : ((c.toNat : Int) == 60) = false := u8_ne (n := 60) (by decide) (by rw [beq_eq_false_iff_ne]; exact hc)
 have heq := fun (w : World) (a : Option Addr) (l c : Nat) => Lib.run_eql_slice_nil (P := Tryz.prog) w 56 5 a l c 0 0 Tryz.underlying56
 replace hun := zz hun
 replace ht2 := zz ht2
 clear h c20 ht hne hc
 go_enter Tryz.func66, Tryz.ntmps66
 go_wp2_with (first | (go_at_call 111; refine hg.mono ?_; rintro e w1 ⟨rfl, k1⟩) | (go_at_call 112; refine (hun.out w1 k1.out.1).mono ?_; rintro e w2 ⟨rfl, k2⟩) | (go_at_call 113; refine (ht2.out w2 k2.out.1).mono ?_; rintro e w3 ⟨g, m, cap, rfl, k3⟩))
 go_ret2
 obtain ⟨rfl, v', h1, h2, h3, h4⟩ := k3.out
 exact ⟨g, cap, v', rfl, h1, ((St.rd v k1.out.2).andRd k2.out.2).trans h2, h3, h4⟩
theorem src_head {q : List UInt8} {chk refs : Bool} {c0 c1 : UInt8} {e : El} (h : e.ok q chk refs c0 c1) (hq : 60 ∈ q) : ∃ c t, e.src = c :: t /\ c ≠ 60 := by
 cases e with
 | «by» c => exact ⟨c, [], rfl, fun hc => h.1 (hc ▸ hq)⟩
 | num hex ds => exact ⟨38, _, rfl, by decide⟩
 | nam s r => exact ⟨38, _, rfl, by decide⟩
theorem srcs_head {q : List UInt8} {chk refs : Bool} {c0 c1 : UInt8} {l : List El} (h : elsOk q chk refs c0 c1 l) (hq : 60 ∈ q) (hl : l ≠ []) : ∃ c t, srcs l = c :: t /\ c ≠ 60 := by
 cases l with
 | nil => exact absurd rfl hl
 | cons e l =>
  obtain ⟨c, t, h1, h2⟩ := src_head h.1 hq
  exact ⟨c, t ++ srcs l, by rw [srcs_cons, h1]; rfl, h2⟩
theorem nb_ne {q : List UInt8} {chk refs : Bool} {l : List El} {rs : List Nat} (hlo : elsOk q chk refs 0 0 l) (hl : l ≠ []) (hout : elsOut 0 l = nb rs) : nb rs ≠ [] := fun h => hl (elsOut_nil hlo (hout.trans h))
theorem rawToken_text_lt (E : Dx) (p : Pa) (v : Value) (bs tl : List UInt8) (l : List El) (rs : List Nat) (w : World) (hp : p.need = false) (hlo : elsOk [60, 38] true true 0 0 l) (hne : l ≠ []) (hl : (srcs l).length <= 1099511627000) (hrs : ∀ r ∈ rs, isCh r = true) (hout : elsOut 0 l = nb rs) (h : Dec E w p v bs true false (srcs l ++ 60 :: tl)) :
  Calls Tryz.prog 66 #[.pointer (some ⟨E.D, 0, none⟩)] w fun e w' => ∃ g cap v', e = .returned (.tuple #[.iface 113 (.slice (some ⟨g, 0, none⟩) (nb rs).length cap), .nilIface]) /\ Dec E w' p v' (nb rs) true false (60 :: tl) /\ St E w v w' v' /\ v'.ownBlock = some g /\ Lies w' g 0 (nb rs) := by
 obtain ⟨c, t, hc, hc60⟩ := srcs_head hlo (by decide) hne
 have e : srcs l ++ 60 :: tl = c :: (t ++ 60 :: tl) := by rw [hc]; rfl
 have ht := fun w1 (hd : Dec E w1 p v bs true false (srcs l ++ 60 :: tl)) => text_lt E p tl l rs v bs w1 hd hlo hl hrs hout
 rw [hout] at ht
 rw [e] at h ht
 exact rawToken_text_in E p v bs c _ _ _ false rs w hp hc60 (nb_ne hlo hne hout) h ht
theorem rawToken_text_eof (E : Dx) (p : Pa) (v : Value) (bs : List UInt8) (l : List El) (rs : List Nat) (w : World) (hp : p.need = false) (hlo : elsOk [60, 38] true true 0 0 l) (hne : l ≠ []) (hl : (srcs l).length <= 1099511627000) (hrs : ∀ r ∈ rs, isCh r = true) (hout : elsOut 0 l = nb rs) (h : Dec E w p v bs true false (srcs l)) :
  Calls Tryz.prog 66 #[.pointer (some ⟨E.D, 0, none⟩)] w fun e w' => ∃ g cap v', e = .returned (.tuple #[.iface 113 (.slice (some ⟨g, 0, none⟩) (nb rs).length cap), .nilIface]) /\ Dec E w' p v' (nb rs) true true [] /\ St E w v w' v' /\ v'.ownBlock = some g /\ Lies w' g 0 (nb rs) := by
 obtain ⟨c, t, hc, hc60⟩ := srcs_head hlo (by decide) hne
 have ht := fun w1 (hd : Dec E w1 p v bs true false (srcs l ++ [])) => text_eof E p l rs v bs w1 hd hlo hl hrs hout
 rw [hout, List.append_nil] at ht
 rw [hc] at h ht
 exact rawToken_text_in E p v bs c _ _ _ true rs w hp hc60 (nb_ne hlo hne hout) h ht
end
section
open Go.RowKit
structure Beside (E : Dx) (w : World) (v : Value) (n : Nat) : Prop where
 lt : n < w.heap.size
 five : 5 <= n
 no : ¬ E.own v n
theorem Beside.new {E : Dx} {w : World} {p : Pa} {v : Value} {bs strm : List UInt8} {nb eo : Bool} (h : Dec E w p v bs nb eo strm) (o : Obj) : Beside E (w.alloc o) v w.heap.size :=
 ⟨by simp, by have := h.n0; have := h.blocks; omega, fun hx => Nat.lt_irrefl _ (h.own_lt _ hx)⟩
theorem Beside.step {E : Dx} {w w' : World} {v v' : Value} {n : Nat} (h : Beside E w v n) (s : St E w v w' v') : Beside E w' v' n :=
 ⟨Nat.lt_of_lt_of_le h.lt s.size, h.five, fun hx => (s.own n hx).elim h.no (fun hge => by have := h.lt; omega)⟩
theorem Beside.set {E : Dx} {w : World} {v : Value} {n : Nat} (h : Beside E w v n) (a : Addr) (u : Value) : Beside E (w.setCell a u) v n :=
 ⟨by simpa [World.setCell] using h.lt, h.five, h.no⟩
theorem Beside.old {E : Dx} {w w' : World} {v : Value} {n : Nat} (h : Beside E w v n) (s : Old w w') : Beside E w' v n := ⟨Nat.lt_of_lt_of_le h.lt s.size, h.five, h.no⟩
theorem Beside.fr {E : Dx} {w w' : World} {v : Value} {n : Nat} {F : Nat -> Prop} (h : Beside E w v n) (s : Fr F w w') : Beside E w' v n := ⟨Nat.lt_of_lt_of_le h.lt s.size, h.five, h.no⟩
theorem Dec.setB {E : Dx} {w : World} {p : Pa} {v : Value} {bs strm : List UInt8} {nb eo : Bool} {n : Nat} (h : Dec E w p v bs nb eo strm) (hb : Beside E w v n) (i : Nat) (u : Value) : Dec E (w.setCell ⟨n, i, none⟩ u) p v bs nb eo strm :=
 h.out (F := fun x => x = n) ((Fr.refl (fun x => x = n) w).set (Or.inl rfl) _ _) (fun x hx e => by have := hb.five; omega) (fun x hx e => hb.no (e ▸ hx))
theorem Beside.blk {E : Dx} {w w' : World} {v v' : Value} {n : Nat} {cs : Array Value} {T : TypeId} (h : Beside E w v n) (s : St E w v w' v') (hb : Blk w n cs T) : Blk w' n cs T := hb.keep s.fr h.no
theorem Beside.blkRd {E : Dx} {w w' : World} {v : Value} {n : Nat} {cs : Array Value} {T : TypeId} (h : Beside E w v n) (s : Fr E.rd w w') (hb : Blk w n cs T) : Blk w' n cs T := hb.keep s (fun hx => h.no (.inl hx))
theorem St.setB {E : Dx} {w0 w : World} {v0 v : Value} {n : Nat} (h : St E w0 v0 w v) (hn : w0.heap.size <= n) (i : Nat) (u : Value) : St E w0 v0 (w.setCell ⟨n, i, none⟩ u) v := ⟨h.fr.set (Or.inr hn) _ _, h.nw⟩
theorem St.ofOld {E : Dx} {w w' : World} (v : Value) (h : Old w w') : St E w v w' v := ⟨Fr.of_old h, Nw.refl _ _⟩
theorem ws_head {ws : List UInt8} (hws : ∀ b ∈ ws, isWs b = true) (d : UInt8) (hd : nmB d = false) (t : List UInt8) : ∃ c t', ws ++ d :: t = c :: t' /\ nmB c = false := by
 cases ws with
 | nil => exact ⟨d, t, rfl, hd⟩
 | cons b ws =>
  refine ⟨b, _, rfl, ?_⟩
  have := hws b (by simp)
  have hb : b = 32 \/ b = 13 \/ b = 10 \/ b = 9 := by simpa [isWs, or_assoc] using this
  rcases hb with rfl | rfl | rfl | rfl <;> decide
def nameZ : Array Value := #[.string ⟨#[]⟩, .string ⟨#[]⟩]
def nameA (nm : List Nat) : Array Value := #[.string ⟨#[]⟩, .string ⟨(nb nm).toArray⟩]
theorem rawToken_close (E : Dx) (p : Pa) (v : Value) (bs : List UInt8) (nm : List Nat) (ws tl : List UInt8) (w : World) (hp : p.need = false) (hnm : NameOk nm) (hws : ∀ b ∈ ws, isWs b = true) (hl : (nb nm).length <= 1099511627776) (h : Dec E w p v bs true false (60 :: 47 :: (nb nm ++ (ws ++ 62 :: tl)))) :
  Calls Tryz.prog 66 #[.pointer (some ⟨E.D, 0, none⟩)] w fun e w' => ∃ v', e = .returned (.tuple #[.iface 112 (.agg #[.string ⟨#[]⟩, .string ⟨(nb nm).toArray⟩]), .nilIface]) /\ Dec E w' p v' (nb nm) true false tl /\ St E w v w' v' /\ v' ≠ .slice none 0 0 := by
 obtain ⟨c6, c20, c14, c0⟩ := h.cells
 rw [hp] at c14
 have c20' : w.cell? ⟨E.D, 20, none⟩ = some .nilIface := c20
 clear c20
 obtain ⟨c, t, hct, hc⟩ := ws_head hws 62 (by decide) tl
 have hg := (getc_cons E p v bs true 60 (47 :: (nb nm ++ (ws ++ 62 :: tl))) w h).mono (R' := fun e w' => e = .returned (.tuple #[.int .u8 60, .bool true]) /\ Hid (Dec E w' p v bs false false (47 :: (nb nm ++ (ws ++ 62 :: tl))) /\ Fr E.rd w w')) (fun _ _ h => h)
 have hm1 : ∀ w1, Dec E w1 p v bs false false (47 :: (nb nm ++ (ws ++ 62 :: tl))) -> Calls Tryz.prog 114 #[.pointer (some ⟨E.D, 0, none⟩)] w1 fun e w' => e = .returned (.tuple #[.int .u8 47, .bool true]) /\ Hid (Dec E w' p v bs false false (nb nm ++ (ws ++ 62 :: tl)) /\ Fr E.rd w1 w') := fun w1 hd => mustgetc_cons E p v bs false 47 _ w1 hd
 have hns : ∀ w2, Dec E w2 p v bs false false (nb nm ++ (ws ++ 62 :: tl)) -> Calls Tryz.prog 115 #[.pointer (some ⟨E.D, 0, none⟩)] (w2.alloc (.cells nameZ 105)) fun e w3 => e = .returned (.tuple #[.agg #[.string ⟨#[]⟩, .string ⟨(nb nm).toArray⟩], .bool true]) /\
   w3.cell? ⟨w2.heap.size, 0, none⟩ = some (.string ⟨#[]⟩) /\ w3.cell? ⟨w2.heap.size, 1, none⟩ = some (.string ⟨#[]⟩) /\ w3.frozen? ⟨w2.heap.size, 0, none⟩ = false /\ w3.frozen? ⟨w2.heap.size, 1, none⟩ = false /\
   Hid (∃ v', v' ≠ .slice none 0 0 /\ Dec E w3 p v' (nb nm) true false (ws ++ 62 :: tl) /\ St E w2 v w3 v' /\ Beside E w3 v' w2.heap.size /\ Blk w3 w2.heap.size nameZ 105) := fun w2 hd => by
  have hold : Old w2 (w2.alloc (.cells nameZ 105)) := (Fr.refl _ w2).alloc _
  have hB := Beside.new hd (.cells nameZ 105)
  have hb := Blk.new w2 nameZ 105
  have hd2 := (hd.old hold).up
  rw [hct] at hd2
  refine (nsname_do E p v bs nm c t _ hnm hc hd2 hl).mono ?_
  rintro e w3 ⟨rfl, v', k0, k1, k2⟩
  rw [<- hct] at k1
  have hb3 := hB.blk k2 hb
  exact ⟨rfl, by rw [hb3.cell]; rfl, by rw [hb3.cell]; rfl, hb3.fz _, hb3.fz _, v', k0, k1, (St.ofOld v hold).trans k2, hB.step k2, hb3⟩
 have hsp : ∀ (w2 w3 : World) (v' : Value), Dec E w3 p v' (nb nm) true false (ws ++ 62 :: tl) -> Beside E w3 v' w2.heap.size -> Blk w3 w2.heap.size nameZ 105 -> Calls Tryz.prog 116 #[.pointer (some ⟨E.D, 0, none⟩)] ((w3.setCell ⟨w2.heap.size, 0, none⟩ (.string ⟨#[]⟩)).setCell ⟨w2.heap.size, 1, none⟩ (.string ⟨(nb nm).toArray⟩)) fun e w4 => e = .returned (.tuple #[]) /\
   Hid (Dec E w4 p v' (nb nm) true false (62 :: tl) /\ Fr (fun x => E.rd x \/ x = w2.heap.size) w3 w4 /\ Beside E w4 v' w2.heap.size /\ Blk w4 w2.heap.size (nameA nm) 105) := fun w2 w3 v' hd hB hb => by
  refine (space_do E p v' (nb nm) ws 62 tl _ hws (by decide) ((hd.setB hB 0 _).setB (hB.set _ _) 1 _)).mono ?_
  rintro e w4 ⟨rfl, k1, k2⟩
  have hB' := (hB.set ⟨w2.heap.size, 0, none⟩ (.string ⟨#[]⟩)).set ⟨w2.heap.size, 1, none⟩ (.string ⟨(nb nm).toArray⟩)
  have hb' := (hb.set 0 (.string ⟨#[]⟩)).set 1 (.string ⟨(nb nm).toArray⟩)
  refine ⟨rfl, k1, ?_, hB'.fr k2, hB'.blkRd k2 hb'⟩
  exact (((Fr.refl (fun x => E.rd x \/ x = w2.heap.size) w3).set (Or.inl (Or.inr rfl)) _ _).set (Or.inl (Or.inr rfl)) _ _).trans k2 (fun x hx => Or.inl (Or.inl hx))
 have hm2 : ∀ (w2 w4 : World) (v' : Value), Dec E w4 p v' (nb nm) true false (62 :: tl) -> Beside E w4 v' w2.heap.size -> Blk w4 w2.heap.size (nameA nm) 105 -> Calls Tryz.prog 114 #[.pointer (some ⟨E.D, 0, none⟩)] w4 fun e w5 => e = .returned (.tuple #[.int .u8 62, .bool true]) /\
   w5.cell? ⟨w2.heap.size, 0, none⟩ = some (.string ⟨#[]⟩) /\ w5.cell? ⟨w2.heap.size, 1, none⟩ = some (.string ⟨(nb nm).toArray⟩) /\ Hid (Dec E w5 p v' (nb nm) false false tl /\ Fr E.rd w4 w5) := fun w2 w4 v' hd hB hb => by
  refine (mustgetc_cons E p v' (nb nm) true 62 tl w4 hd).mono ?_
  rintro e w5 ⟨rfl, k1, k2⟩
  have hb5 := hB.blkRd k2 hb
  exact ⟨rfl, by rw [hb5.cell]; rfl, by rw [hb5.cell]; rfl, k1, k2⟩
 replace hm1 := zz hm1
 replace hm2 := zz hm2
 replace hns := zz hns
 replace hsp := zz hsp
 clear h hct hws hnm hl
 go_enter Tryz.func66, Tryz.ntmps66
 go_wp2_with (first | (go_at_call 111; refine hg.mono ?_; rintro e w1 ⟨rfl, k1⟩) | (go_at_call 114; refine (hm1.out w1 k1.out.1).mono ?_; rintro e w2 ⟨rfl, k2⟩; clear hm1) | (go_at_call 115; refine (hns.out w2 k2.out.1).mono ?_; rintro e w3 ⟨rfl, e0, e1, f0, f1, k3⟩; obtain ⟨v', hv', d3, s3, b3, l3⟩ := k3; replace d3 := zz d3; replace s3 := zz s3; replace b3 := zz b3; replace l3 := zz l3) | (go_at_call 116; refine (hsp.out w2 w3 v' d3.out b3.out l3.out).mono ?_; rintro e w4 ⟨rfl, k4⟩) | (go_at_call 114; refine (hm2.out w2 w4 v' k4.out.1 k4.out.2.2.1 k4.out.2.2.2).mono ?_; rintro e w5 ⟨rfl, g0, g1, k5⟩))
 go_ret2
 refine ⟨v', rfl, k5.out.1.up, ?_, hv'⟩
 have s2 := ((St.rd v k1.out.2).andRd k2.out.2).trans s3.out
 exact ⟨(s2.fr.trans k4.out.2.1 (fun x hx => hx.elim (fun hx => (s2.own x (.inl hx))) (fun hx => Or.inr (by rw [hx]; exact Nat.le_trans k1.out.2.size k2.out.2.size)))).trans k5.out.2 (fun x hx => (s2.own x (.inl hx))), s2.nw⟩
end
end Go.Proofs.YtepbbahdhhjibaaGreatDoor
