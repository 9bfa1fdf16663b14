/- own text -/
import Derived.Test.YtepbbahdhhjibaaGreatDoorD13
namespace Go.Proofs.YtepbbahdhhjibaaGreatDoor
set_option linter.unusedSimpArgs false
set_option linter.unusedVariables false
set_option maxHeartbeats 8000000
set_option maxRecDepth 1000000
section
open Go.RowKit
def quo (dbl : Bool) : UInt8 := if dbl then 34 else 39
def quoL (dbl : Bool) : List UInt8 := if dbl then [60, 38, 34] else [60, 38, 39]
theorem attrval_do (E : Dx) (p : Pa) (v : Value) (bs tl : List UInt8) (dbl : Bool) (l : List El) (rs : List Nat) (w : World) (hlo : elsOk (quoL dbl) false true 0 0 l) (hl : (srcs l).length <= 1099511627000) (hrs : ∀ r ∈ rs, isCh r = true) (hout : elsOut 0 l = nb rs) (hv : v ≠ .slice none 0 0)
  (h : Dec E w p v bs true false (quo dbl :: (srcs l ++ quo dbl :: tl))) :
  Calls Tryz.prog 125 #[.pointer (some ⟨E.D, 0, none⟩)] w fun e w' => ∃ g cap v', e = .returned (.slice (some ⟨g, 0, none⟩) (nb rs).length cap) /\ Dec E w' p v' (nb rs) true false tl /\ St E w v w' v' /\ v' ≠ .slice none 0 0 /\ Lies w' g 0 (nb rs) := by
 cases dbl with
 | true =>
  have hm := (mustgetc_cons E p v bs true 34 (srcs l ++ 34 :: tl) w h).mono (R' := fun e w' => e = .returned (.tuple #[.int .u8 34, .bool true]) /\ Hid (Dec E w' p v bs false false (srcs l ++ 34 :: tl) /\ Fr E.rd w w')) (fun _ _ h => h)
  have ht := fun w1 (hd : Dec E w1 p v bs false false (srcs l ++ 34 :: tl)) => (text_q34 E p tl l rs v bs w1 hd.up hlo hl hrs hout).mono (R' := fun e w' => ∃ g m cap, e = .returned (.slice (some ⟨g, 0, none⟩) m cap) /\ Hid (m = (nb rs).length /\ ∃ v', Dec E w' p v' (nb rs) true false tl /\ St E w1 v w' v' /\ v' ≠ .slice none 0 0 /\ Lies w' g 0 (nb rs))) (by
   rintro e w' ⟨vr, v', rfl, h1, h2, h3, h4⟩
   obtain ⟨g, cap, rfl, h5, _, h6⟩ := h3.slice (h4 hv)
   rw [hout] at h1
   exact ⟨g, _, cap, rfl, rfl, v', h1, h2, by rintro rfl; simp [Value.ownBlock] at h5, h6⟩)
  replace ht := zz ht
  clear h hlo hl hrs hout
  go_enter Tryz.func125, Tryz.ntmps125
  go_wp2_with (first | (go_at_call 114; refine hm.mono ?_; rintro e w1 ⟨rfl, k1⟩) | (go_at_call 113; refine (ht.out w1 k1.out.1).mono ?_; rintro e w2 ⟨g, m, cap, rfl, k2⟩))
  go_ret
  obtain ⟨rfl, v', h1, h2, h3, h4⟩ := k2.out
  exact ⟨g, cap, v', rfl, h1, (St.rd v k1.out.2).trans h2, h3, h4⟩
 | false =>
  have hm := (mustgetc_cons E p v bs true 39 (srcs l ++ 39 :: tl) w h).mono (R' := fun e w' => e = .returned (.tuple #[.int .u8 39, .bool true]) /\ Hid (Dec E w' p v bs false false (srcs l ++ 39 :: tl) /\ Fr E.rd w w')) (fun _ _ h => h)
  have ht := fun w1 (hd : Dec E w1 p v bs false false (srcs l ++ 39 :: tl)) => (text_q39 E p tl l rs v bs w1 hd.up hlo hl hrs hout).mono (R' := fun e w' => ∃ g m cap, e = .returned (.slice (some ⟨g, 0, none⟩) m cap) /\ Hid (m = (nb rs).length /\ ∃ v', Dec E w' p v' (nb rs) true false tl /\ St E w1 v w' v' /\ v' ≠ .slice none 0 0 /\ Lies w' g 0 (nb rs))) (by
   rintro e w' ⟨vr, v', rfl, h1, h2, h3, h4⟩
   obtain ⟨g, cap, rfl, h5, _, h6⟩ := h3.slice (h4 hv)
   rw [hout] at h1
   exact ⟨g, _, cap, rfl, rfl, v', h1, h2, by rintro rfl; simp [Value.ownBlock] at h5, h6⟩)
  replace ht := zz ht
  clear h hlo hl hrs hout
  go_enter Tryz.func125, Tryz.ntmps125
  go_wp2_with (first | (go_at_call 114; refine hm.mono ?_; rintro e w1 ⟨rfl, k1⟩) | (go_at_call 113; refine (ht.out w1 k1.out.1).mono ?_; rintro e w2 ⟨g, m, cap, rfl, k2⟩))
  go_ret
  obtain ⟨rfl, v', h1, h2, h3, h4⟩ := k2.out
  exact ⟨g, cap, v', rfl, h1, (St.rd v k1.out.2).trans h2, h3, h4⟩
def startsAt (r : Nat) : Code -> Bool
 | .region k _ _ => k == r
 | .seq a _ => startsAt r a
 | .block _ c => startsAt r c
 | .scope c => startsAt r c
 | _ => false
def loopAt (r : Nat) : Code -> Option Code
 | .loop c => if startsAt r c then some c else loopAt r c
 | .seq a b => match loopAt r a with
  | some c => some c
  | none => loopAt r b
 | .block _ c => loopAt r c
 | .scope c => loopAt r c
 | .cond _ a b => match loopAt r a with
  | some c => some c
  | none => loopAt r b
 | _ => none
noncomputable def body66 : Code := ((Tryz.f66.body.bind (loopAt 162)).getD .skip)
structure At where
 ws0 : List UInt8
 nm : List Nat
 ws1 : List UInt8
 ws2 : List UInt8
 dbl : Bool
 els : List El
 rs : List Nat
def At.src (a : At) : List UInt8 := a.ws0 ++ (nb a.nm ++ (a.ws1 ++ 61 :: (a.ws2 ++ quo a.dbl :: (srcs a.els ++ [quo a.dbl]))))
structure At.ok (a : At) : Prop where
 w0 : ∀ b ∈ a.ws0, isWs b = true
 w1 : ∀ b ∈ a.ws1, isWs b = true
 w2 : ∀ b ∈ a.ws2, isWs b = true
 name : NameOk a.nm
 els : elsOk (quoL a.dbl) false true 0 0 a.els
 out : elsOut 0 a.els = nb a.rs
 ch : ∀ r ∈ a.rs, isCh r = true
def At.cells (a : At) : List Value := [.string ⟨#[]⟩, .string ⟨(nb a.nm).toArray⟩, .string ⟨(nb a.rs).toArray⟩]
theorem nmB_not {b : UInt8} (h : nmB b = true) : isWs b = false /\ b ≠ 47 /\ b ≠ 62 /\ b ≠ 33 /\ b ≠ 63 /\ b ≠ 60 := by
 refine ⟨?_, ?_, ?_, ?_, ?_, ?_⟩
 ·by_cases hw : isWs b = true
  ·have hb : b = 32 \/ b = 13 \/ b = 10 \/ b = 9 := by simpa [isWs, or_assoc] using hw
   rcases hb with rfl | rfl | rfl | rfl <;> exact absurd h (by decide)
  ·simpa using hw
 all_goals (rintro rfl; exact absurd h (by decide))
theorem NameOk.head {nm : List Nat} (h : NameOk nm) : ∃ b t, nb nm = b :: t /\ nmB b = true := by
 have h1 := nmB_nb h.all
 have h2 := h.nb_ne
 cases hn : nb nm with
 | nil => exact absurd hn h2
 | cons b t => exact ⟨b, t, rfl, h1 b (by rw [hn]; simp)⟩
end
section
open Go.RowKit
structure FrS (D N : Nat) (va : Value) (t : Array Value) : Prop where
 size : t.size = 731
 s0 : t[0]? = some (.pointer (some ⟨D, 0, none⟩))
 s28 : t[28]? = some (.pointer (some ⟨N, 0, none⟩))
 s29 : t[29]? = some (.bool false)
 s30 : t[30]? = some va
def gS (D N : Nat) (va : Value) (u : Nat -> Value) : Nat -> Value
 | 0 => .pointer (some ⟨D, 0, none⟩)
 | 28 => .pointer (some ⟨N, 0, none⟩)
 | 29 => .bool false
 | 30 => va
 | k => u k
theorem FrS.eq {D N : Nat} {va : Value} {t : Array Value} (h : FrS D N va t) : t = ((List.range 731).map (gS D N va (fun k => t.getD k (.bool false)))).toArray := by
 apply arr_range t 731 _ h.size
 intro k hk
 have hd : t[k]? = some (t.getD k (.bool false)) := by
  have hk2 : k < t.size := by rw [h.size]; exact hk
  simp [hk2]
 unfold gS
 split
 ·exact h.s0
 ·exact h.s28
 ·exact h.s29
 ·exact h.s30
 ·exact hd
theorem gS_lit (D N : Nat) (va : Value) (u : Nat -> Value) : ((List.range 731).map (gS D N va u)).toArray = #[.pointer (some ⟨D, 0, none⟩), u 1, u 2, u 3, u 4, u 5, u 6, u 7, u 8, u 9, u 10, u 11, u 12, u 13, u 14, u 15, u 16, u 17, u 18, u 19, u 20, u 21, u 22, u 23, u 24, u 25, u 26, u 27, .pointer (some ⟨N, 0, none⟩), .bool false, va, u 31, u 32, u 33, u 34, u 35, u 36, u 37, u 38, u 39, u 40, u 41, u 42, u 43, u 44, u 45, u 46, u 47, u 48, u 49, u 50, u 51, u 52, u 53, u 54, u 55, u 56, u 57, u 58, u 59, u 60, u 61, u 62, u 63, u 64, u 65, u 66, u 67, u 68, u 69, u 70, u 71, u 72, u 73, u 74, u 75, u 76, u 77, u 78, u 79, u 80, u 81, u 82, u 83, u 84, u 85, u 86, u 87, u 88, u 89, u 90, u 91, u 92, u 93, u 94, u 95, u 96, u 97, u 98, u 99, u 100, u 101, u 102, u 103, u 104, u 105, u 106, u 107, u 108, u 109, u 110, u 111, u 112, u 113, u 114, u 115, u 116, u 117, u 118, u 119, u 120, u 121, u 122, u 123, u 124, u 125, u 126, u 127, u 128, u 129, u 130, u 131, u 132, u 133, u 134, u 135, u 136, u 137, u 138, u 139, u 140, u 141, u 142, u 143, u 144, u 145, u 146, u 147, u 148, u 149, u 150, u 151, u 152, u 153, u 154, u 155, u 156, u 157, u 158, u 159, u 160, u 161, u 162, u 163, u 164, u 165, u 166, u 167, u 168, u 169, u 170, u 171, u 172, u 173, u 174, u 175, u 176, u 177, u 178, u 179, u 180, u 181, u 182, u 183, u 184, u 185, u 186, u 187, u 188, u 189, u 190, u 191, u 192, u 193, u 194, u 195, u 196, u 197, u 198, u 199, u 200, u 201, u 202, u 203, u 204, u 205, u 206, u 207, u 208, u 209, u 210, u 211, u 212, u 213, u 214, u 215, u 216, u 217, u 218, u 219, u 220, u 221, u 222, u 223, u 224, u 225, u 226, u 227, u 228, u 229, u 230, u 231, u 232, u 233, u 234, u 235, u 236, u 237, u 238, u 239, u 240, u 241, u 242, u 243, u 244, u 245, u 246, u 247, u 248, u 249, u 250, u 251, u 252, u 253, u 254, u 255, u 256, u 257, u 258, u 259, u 260, u 261, u 262, u 263, u 264, u 265, u 266, u 267, u 268, u 269, u 270, u 271, u 272, u 273, u 274, u 275, u 276, u 277, u 278, u 279, u 280, u 281, u 282, u 283, u 284, u 285, u 286, u 287, u 288, u 289, u 290, u 291, u 292, u 293, u 294, u 295, u 296, u 297, u 298, u 299, u 300, u 301, u 302, u 303, u 304, u 305, u 306, u 307, u 308, u 309, u 310, u 311, u 312, u 313, u 314, u 315, u 316, u 317, u 318, u 319, u 320, u 321, u 322, u 323, u 324, u 325, u 326, u 327, u 328, u 329, u 330, u 331, u 332, u 333, u 334, u 335, u 336, u 337, u 338, u 339, u 340, u 341, u 342, u 343, u 344, u 345, u 346, u 347, u 348, u 349, u 350, u 351, u 352, u 353, u 354, u 355, u 356, u 357, u 358, u 359, u 360, u 361, u 362, u 363, u 364, u 365, u 366, u 367, u 368, u 369, u 370, u 371, u 372, u 373, u 374, u 375, u 376, u 377, u 378, u 379, u 380, u 381, u 382, u 383, u 384, u 385, u 386, u 387, u 388, u 389, u 390, u 391, u 392, u 393, u 394, u 395, u 396, u 397, u 398, u 399, u 400, u 401, u 402, u 403, u 404, u 405, u 406, u 407, u 408, u 409, u 410, u 411, u 412, u 413, u 414, u 415, u 416, u 417, u 418, u 419, u 420, u 421, u 422, u 423, u 424, u 425, u 426, u 427, u 428, u 429, u 430, u 431, u 432, u 433, u 434, u 435, u 436, u 437, u 438, u 439, u 440, u 441, u 442, u 443, u 444, u 445, u 446, u 447, u 448, u 449, u 450, u 451, u 452, u 453, u 454, u 455, u 456, u 457, u 458, u 459, u 460, u 461, u 462, u 463, u 464, u 465, u 466, u 467, u 468, u 469, u 470, u 471, u 472, u 473, u 474, u 475, u 476, u 477, u 478, u 479, u 480, u 481, u 482, u 483, u 484, u 485, u 486, u 487, u 488, u 489, u 490, u 491, u 492, u 493, u 494, u 495, u 496, u 497, u 498, u 499, u 500, u 501, u 502, u 503, u 504, u 505, u 506, u 507, u 508, u 509, u 510, u 511, u 512, u 513, u 514, u 515, u 516, u 517, u 518, u 519, u 520, u 521, u 522, u 523, u 524, u 525, u 526, u 527, u 528, u 529, u 530, u 531, u 532, u 533, u 534, u 535, u 536, u 537, u 538, u 539, u 540, u 541, u 542, u 543, u 544, u 545, u 546, u 547, u 548, u 549, u 550, u 551, u 552, u 553, u 554, u 555, u 556, u 557, u 558, u 559, u 560, u 561, u 562, u 563, u 564, u 565, u 566, u 567, u 568, u 569, u 570, u 571, u 572, u 573, u 574, u 575, u 576, u 577, u 578, u 579, u 580, u 581, u 582, u 583, u 584, u 585, u 586, u 587, u 588, u 589, u 590, u 591, u 592, u 593, u 594, u 595, u 596, u 597, u 598, u 599, u 600, u 601, u 602, u 603, u 604, u 605, u 606, u 607, u 608, u 609, u 610, u 611, u 612, u 613, u 614, u 615, u 616, u 617, u 618, u 619, u 620, u 621, u 622, u 623, u 624, u 625, u 626, u 627, u 628, u 629, u 630, u 631, u 632, u 633, u 634, u 635, u 636, u 637, u 638, u 639, u 640, u 641, u 642, u 643, u 644, u 645, u 646, u 647, u 648, u 649, u 650, u 651, u 652, u 653, u 654, u 655, u 656, u 657, u 658, u 659, u 660, u 661, u 662, u 663, u 664, u 665, u 666, u 667, u 668, u 669, u 670, u 671, u 672, u 673, u 674, u 675, u 676, u 677, u 678, u 679, u 680, u 681, u 682, u 683, u 684, u 685, u 686, u 687, u 688, u 689, u 690, u 691, u 692, u 693, u 694, u 695, u 696, u 697, u 698, u 699, u 700, u 701, u 702, u 703, u 704, u 705, u 706, u 707, u 708, u 709, u 710, u 711, u 712, u 713, u 714, u 715, u 716, u 717, u 718, u 719, u 720, u 721, u 722, u 723, u 724, u 725, u 726, u 727, u 728, u 729, u 730] := by kernel_rfl
theorem St.loc {E : Dx} {w0 w w' : World} {v0 v : Value} {n : Nat} (S : St E w0 v0 w v) (h : Fr (fun x => E.rd x \/ x = n) w w') (hn : w0.heap.size <= n) : St E w0 v0 w' v :=
 ⟨S.fr.trans h (fun x hx => hx.elim (fun hx => S.own x (.inl hx)) (fun hx => Or.inr (by rw [hx]; exact hn))), S.nw⟩
structure SS (E : Dx) (w : World) (p : Pa) (v : Value) (bs strm : List UInt8) (N : Nat) (nm : List Nat) (va : Value) (ats : List At) : Prop where
 dec : Dec E w p v bs true false strm
 ne : v ≠ .slice none 0 0
 bes : Beside E w v N
 blk : Blk w N (nameA nm) 105
 row : w.ownsRow 0 110 3 va ats.length (ats.flatMap At.cells)
 ro : ∀ k, va.ownBlock = some k -> Beside E w v k /\ k ≠ N
structure SSt (E : Dx) (w : World) (v : Value) (N : Nat) (va : Value) (w' : World) (v' : Value) (va' : Value) : Prop where
 fr : Fr (fun x => E.own v x \/ x = N \/ va.ownBlock = some x) w w'
 nw : Nw w v v'
 nr : Nw w va va'
end
section
open Go.RowKit
theorem info110 : (Tryz.prog.info? 110).map (fun i => (i.zero, i.size, i.bytes)) = some (some (.agg #[.string ⟨#[]⟩, .string ⟨#[]⟩, .string ⟨#[]⟩]), 3, 48) := by kernel_rfl
def attrZ : Array Value := #[.string ⟨#[]⟩, .string ⟨#[]⟩, .string ⟨#[]⟩]
theorem start_round (E : Dx) (p : Pa) (v : Value) (bs tl : List UInt8) (N : Nat) (nm : List Nat) (va : Value) (ats : List At) (a : At) (u : Nat -> Value) (wr : World) (K : Act -> World -> Prop) (Q0 : Exit -> Act -> World -> Prop)
  (ha : a.ok) (hal : a.src.length <= 1099511627000) (hs : SS E wr p v bs (a.src ++ tl) N nm va ats) (hn : ats.length <= 549755813888)
  (hK : ∀ (t' : Array Value) (w' : World) (v' va' : Value) (bs' : List UInt8), FrS E.D N va' t' -> SS E w' p v' bs' tl N nm va' (ats ++ [a]) -> SSt E wr v N va w' v' va' -> K ⟨t', []⟩ w') :
  body66.wp Tryz.prog (Exit.then K Q0) ⟨((List.range 731).map (gS E.D N va u)).toArray, []⟩ wr := by
 rw [gS_lit]
 replace hK := zz hK
 conv => arg 2; whnf
 obtain ⟨b0, t0, hb0, hnb0⟩ := ha.name.head
 obtain ⟨hq1, hq2, hq3, hq4, hq5, hq6⟩ := nmB_not hnb0
 obtain ⟨c, t, hct, hc⟩ := ws_head ha.w1 61 (by decide) (a.ws2 ++ quo a.dbl :: (srcs a.els ++ quo a.dbl :: tl))
 have hsrc : a.src ++ tl = a.ws0 ++ b0 :: (t0 ++ (a.ws1 ++ 61 :: (a.ws2 ++ quo a.dbl :: (srcs a.els ++ quo a.dbl :: tl)))) := by simp [At.src, hb0]
 have hsrc2 : b0 :: (t0 ++ (a.ws1 ++ 61 :: (a.ws2 ++ quo a.dbl :: (srcs a.els ++ quo a.dbl :: tl)))) = nb a.nm ++ (a.ws1 ++ 61 :: (a.ws2 ++ quo a.dbl :: (srcs a.els ++ quo a.dbl :: tl))) := by rw [hb0]; rfl
 have hlen : (nb a.nm).length <= 1099511627776 /\ (srcs a.els).length <= 1099511627000 := by
  simp [At.src] at hal; omega
 have hD := hs.dec
 rw [hsrc] at hD
 have hsp := (space_do E p v bs a.ws0 b0 (t0 ++ (a.ws1 ++ 61 :: (a.ws2 ++ quo a.dbl :: (srcs a.els ++ quo a.dbl :: tl)))) wr ha.w0 hq1 hD).mono (R' := fun e w' => e = .returned (.tuple #[]) /\ Hid (Dec E w' p v bs true false (b0 :: (t0 ++ (a.ws1 ++ 61 :: (a.ws2 ++ quo a.dbl :: (srcs a.els ++ quo a.dbl :: tl))))) /\ Fr E.rd wr w')) (fun _ _ h => h)
 have hmg : ∀ w1, Dec E w1 p v bs true false (b0 :: (t0 ++ (a.ws1 ++ 61 :: (a.ws2 ++ quo a.dbl :: (srcs a.els ++ quo a.dbl :: tl))))) -> Calls Tryz.prog 114 #[.pointer (some ⟨E.D, 0, none⟩)] w1 fun e w' => e = .returned (.tuple #[.int .u8 b0.toNat, .bool true]) /\ Hid (Dec E w' p v bs false false (t0 ++ (a.ws1 ++ 61 :: (a.ws2 ++ quo a.dbl :: (srcs a.els ++ quo a.dbl :: tl)))) /\ Fr E.rd w1 w') := fun w1 hd => mustgetc_cons E p v bs true b0 _ w1 hd
 have hun : ∀ w1, Dec E w1 p v bs false false (t0 ++ (a.ws1 ++ 61 :: (a.ws2 ++ quo a.dbl :: (srcs a.els ++ quo a.dbl :: tl)))) -> Calls Tryz.prog 112 #[.pointer (some ⟨E.D, 0, none⟩), .int .u8 b0.toNat] w1 fun e w' => e = .returned (.tuple #[]) /\ Hid (Dec E w' p v bs true false (nb a.nm ++ (a.ws1 ++ 61 :: (a.ws2 ++ quo a.dbl :: (srcs a.els ++ quo a.dbl :: tl)))) /\ Fr E.rd w1 w') := fun w1 hd => by
  have := ungetc_do' E p v bs b0 _ w1 hd
  rw [hsrc2] at this
  exact this
 have e47 : ((b0.toNat : Int) == 47) = false := u8_ne (n := 47) (by decide) (by rw [beq_eq_false_iff_ne]; exact hq2)
 have e62 : ((b0.toNat : Int) == 62) = false := u8_ne (n := 62) (by decide) (by rw [beq_eq_false_iff_ne]; exact hq3)
 have hns : ∀ w3, Dec E w3 p v bs true false (nb a.nm ++ (a.ws1 ++ 61 :: (a.ws2 ++ quo a.dbl :: (srcs a.els ++ quo a.dbl :: tl)))) -> Calls Tryz.prog 115 #[.pointer (some ⟨E.D, 0, none⟩)] (w3.alloc (.cells attrZ 110)) fun e w4 => e = .returned (.tuple #[.agg #[.string ⟨#[]⟩, .string ⟨(nb a.nm).toArray⟩], .bool true]) /\
   w4.cell? ⟨w3.heap.size, 0, none⟩ = some (.string ⟨#[]⟩) /\ w4.cell? ⟨w3.heap.size, 1, none⟩ = some (.string ⟨#[]⟩) /\ w4.cell? ⟨w3.heap.size, 2, none⟩ = some (.string ⟨#[]⟩) /\ w4.frozen? ⟨w3.heap.size, 0, none⟩ = false /\ w4.frozen? ⟨w3.heap.size, 1, none⟩ = false /\ w4.frozen? ⟨w3.heap.size, 2, none⟩ = false /\
   Hid (∃ v', v' ≠ .slice none 0 0 /\ Dec E w4 p v' (nb a.nm) true false (a.ws1 ++ 61 :: (a.ws2 ++ quo a.dbl :: (srcs a.els ++ quo a.dbl :: tl))) /\ St E w3 v w4 v' /\ Beside E w4 v' w3.heap.size /\ Blk w4 w3.heap.size attrZ 110) := fun w3 hd => by
  have hold : Old w3 (w3.alloc (.cells attrZ 110)) := (Fr.refl _ w3).alloc _
  have hB := Beside.new hd (.cells attrZ 110)
  have hb := Blk.new w3 attrZ 110
  have hd2 := (hd.old hold).up
  rw [hct] at hd2
  refine (nsname_do E p v bs a.nm c t _ ha.name hc hd2 hlen.1).mono ?_
  rintro e w4 ⟨rfl, v', k0, k1, k2⟩
  rw [<- hct] at k1
  have hb3 := hB.blk k2 hb
  exact ⟨rfl, by rw [hb3.cell]; rfl, by rw [hb3.cell]; rfl, by rw [hb3.cell]; rfl, hb3.fz _, hb3.fz _, hb3.fz _, v', k0, k1, (St.ofOld v hold).trans k2, hB.step k2, hb3⟩
 have hsp2 : ∀ (w3 w4 : World) (v' : Value), Dec E w4 p v' (nb a.nm) true false (a.ws1 ++ 61 :: (a.ws2 ++ quo a.dbl :: (srcs a.els ++ quo a.dbl :: tl))) -> Beside E w4 v' w3.heap.size -> Blk w4 w3.heap.size attrZ 110 -> Calls Tryz.prog 116 #[.pointer (some ⟨E.D, 0, none⟩)] ((w4.setCell ⟨w3.heap.size, 0, none⟩ (.string ⟨#[]⟩)).setCell ⟨w3.heap.size, 1, none⟩ (.string ⟨(nb a.nm).toArray⟩)) fun e w5 => e = .returned (.tuple #[]) /\
   Hid (Dec E w5 p v' (nb a.nm) true false (61 :: (a.ws2 ++ quo a.dbl :: (srcs a.els ++ quo a.dbl :: tl))) /\ Fr (fun x => E.rd x \/ x = w3.heap.size) w4 w5 /\ Beside E w5 v' w3.heap.size /\ Blk w5 w3.heap.size #[.string ⟨#[]⟩, .string ⟨(nb a.nm).toArray⟩, .string ⟨#[]⟩] 110) := fun w3 w4 v' hd hB hb => by
  refine (space_do E p v' (nb a.nm) a.ws1 61 _ _ ha.w1 (by decide) ((hd.setB hB 0 _).setB (hB.set _ _) 1 _)).mono ?_
  rintro e w5 ⟨rfl, k1, k2⟩
  have hB' := (hB.set ⟨w3.heap.size, 0, none⟩ (.string ⟨#[]⟩)).set ⟨w3.heap.size, 1, none⟩ (.string ⟨(nb a.nm).toArray⟩)
  have hb' := (hb.set 0 (.string ⟨#[]⟩)).set 1 (.string ⟨(nb a.nm).toArray⟩)
  refine ⟨rfl, k1, ?_, hB'.fr k2, hB'.blkRd k2 hb'⟩
  exact (((Fr.refl (fun x => E.rd x \/ x = w3.heap.size) w4).set (Or.inl (Or.inr rfl)) _ _).set (Or.inl (Or.inr rfl)) _ _).trans k2 (fun x hx => Or.inl (Or.inl hx))
 have hm2 : ∀ (w5 : World) (v' : Value), Dec E w5 p v' (nb a.nm) true false (61 :: (a.ws2 ++ quo a.dbl :: (srcs a.els ++ quo a.dbl :: tl))) -> Calls Tryz.prog 114 #[.pointer (some ⟨E.D, 0, none⟩)] w5 fun e w6 => e = .returned (.tuple #[.int .u8 61, .bool true]) /\ Hid (Dec E w6 p v' (nb a.nm) false false (a.ws2 ++ quo a.dbl :: (srcs a.els ++ quo a.dbl :: tl)) /\ Fr E.rd w5 w6) := fun w5 v' hd => mustgetc_cons E p v' (nb a.nm) true 61 _ w5 hd
 have hsp3 : ∀ (w6 : World) (v' : Value), Dec E w6 p v' (nb a.nm) false false (a.ws2 ++ quo a.dbl :: (srcs a.els ++ quo a.dbl :: tl)) -> Calls Tryz.prog 116 #[.pointer (some ⟨E.D, 0, none⟩)] w6 fun e w7 => e = .returned (.tuple #[]) /\ Hid (Dec E w7 p v' (nb a.nm) true false (quo a.dbl :: (srcs a.els ++ quo a.dbl :: tl)) /\ Fr E.rd w6 w7) := fun w6 v' hd => space_do E p v' (nb a.nm) a.ws2 (quo a.dbl) _ w6 ha.w2 (by cases a.dbl <;> decide) hd.up
 have hav : ∀ (w3 w7 : World) (v' : Value), v' ≠ .slice none 0 0 -> Dec E w7 p v' (nb a.nm) true false (quo a.dbl :: (srcs a.els ++ quo a.dbl :: tl)) -> Beside E w7 v' w3.heap.size -> Blk w7 w3.heap.size #[.string ⟨#[]⟩, .string ⟨(nb a.nm).toArray⟩, .string ⟨#[]⟩] 110 -> Calls Tryz.prog 125 #[.pointer (some ⟨E.D, 0, none⟩)] w7 fun e w8 =>
   ∃ g m cap, e = .returned (.slice (some ⟨g, 0, none⟩) m cap) /\ (convert 56 9 (.slice (some ⟨g, 0, none⟩) m cap)).run Tryz.prog w8 = .ok (.string ⟨(nb a.rs).toArray⟩) w8 /\ w8.cell? ⟨w3.heap.size, 0, none⟩ = some (.string ⟨#[]⟩) /\ w8.cell? ⟨w3.heap.size, 1, none⟩ = some (.string ⟨(nb a.nm).toArray⟩) /\ w8.cell? ⟨w3.heap.size, 2, none⟩ = some (.string ⟨#[]⟩) /\ w8.frozen? ⟨w3.heap.size, 2, none⟩ = false /\
   Hid (∃ v8, v8 ≠ .slice none 0 0 /\ Dec E w8 p v8 (nb a.rs) true false tl /\ St E w7 v' w8 v8 /\ Beside E w8 v8 w3.heap.size) := fun w3 w7 v' hv hd hB hb => by
  refine (attrval_do E p v' (nb a.nm) tl a.dbl a.els a.rs w7 ha.els hlen.2 ha.ch ha.out hv hd).mono ?_
  rintro e w8 ⟨g, cap, v8, rfl, k1, k2, k3, k4⟩
  have hb8 := hB.blk k2 hb
  exact ⟨g, _, cap, rfl, Lies.str k4 rfl, by rw [hb8.cell]; rfl, by rw [hb8.cell]; rfl, by rw [hb8.cell]; rfl, hb8.fz _, v8, k3, k1, k2, hB.step k2⟩
 have heq := fun (w : World) (a : Option Addr) (l c : Nat) => Lib.run_eql_slice_nil (P := Tryz.prog) w 56 5 a l c 0 0 Tryz.underlying56
 obtain ⟨i0, hi, hz0, hz1, hz2⟩ := info_parts info110
 replace hmg := zz hmg
 replace hun := zz hun
 replace hns := zz hns
 replace hsp2 := zz hsp2
 replace hm2 := zz hm2
 replace hsp3 := zz hsp3
 replace hav := zz hav
 have hvne := zz hs.ne
 replace hs := zz hs
 clear hD hsrc hsrc2 hct hb0 ha hal hlen
 go_wp2_with (first | (go_at_call 116; refine hsp.mono ?_; rintro e w1 ⟨rfl, k1⟩) | (go_at_call 114; refine (hmg.out w1 k1.out.1).mono ?_; rintro e w2 ⟨rfl, k2⟩) | (go_at_call 112; refine (hun.out w2 k2.out.1).mono ?_; rintro e w3 ⟨rfl, k3⟩) |
  (go_at_call 115; refine (hns.out w3 k3.out.1).mono ?_; rintro e w4 ⟨rfl, e0, e1, e2, f0, f1, f2, k4⟩; obtain ⟨v4, hv4, d4, s4, b4, l4⟩ := k4.out; replace hv4 := zz hv4; replace d4 := zz d4; replace s4 := zz s4; replace b4 := zz b4; replace l4 := zz l4; clear k4 hsp) |
  (go_at_call 116; refine (hsp2.out w3 w4 v4 d4.out b4.out l4.out).mono ?_; rintro e w5 ⟨rfl, k5⟩) | (go_at_call 114; refine (hm2.out w5 v4 k5.out.1).mono ?_; rintro e w6 ⟨rfl, k6⟩) | (go_at_call 116; refine (hsp3.out w6 v4 k6.out.1).mono ?_; rintro e w7 ⟨rfl, k7⟩) |
  (go_at_call 125; refine (hav.out w3 w7 v4 hv4.out k7.out.1 ((k5.out.2.2.1.fr k6.out.2).fr k7.out.2) ((k5.out.2.2.1.fr k6.out.2).blkRd k7.out.2 (k5.out.2.2.1.blkRd k6.out.2 k5.out.2.2.2))).mono ?_; rintro e w8 ⟨g, m, cap, rfl, hcv, c0, c1, c2, q2, k8⟩; obtain ⟨v8, hv8, d8, s8, b8⟩ := k8.out
   have hsz : wr.heap.size <= w3.heap.size := Nat.le_trans k1.out.2.size (Nat.le_trans k2.out.2.size k3.out.2.size)
   have S8 : Hid (St E wr v w8 v8) := zz ((((((((St.rd v k1.out.2).andRd k2.out.2).andRd k3.out.2).trans s4.out).loc k5.out.2.1 hsz).andRd k6.out.2).andRd k7.out.2).trans s8)
   have row9 := zz (ownsRow_setCell (p := ⟨w3.heap.size, 2, none⟩) (ownsRow_frame hs.out.row S8.out.fr (fun k hk => (hs.out.ro k hk).1.no)) (fun e => absurd (hs.out.ro _ e).1.lt (Nat.not_lt.2 hsz)) (.string ⟨(nb a.rs).toArray⟩))
   replace d8 := zz d8
   replace b8 := zz b8
   replace hv8 := zz hv8
   replace hsz := zz hsz
   clear k1 k2 k3 s4 d4 b4 l4 k5 k6 k7 k8 s8) |
  (at_builtin; refine wpList_append rfl _ _ 106 rfl 110 i0 _ 3 48 Tryz.underlying106 hi hz0 hz1 hz2 rfl (by decide) va ats.length _ rfl (ownsRow_frame (F := fun _ => False) row9.out ((Fr.refl _ _).alloc _) (fun _ _ h => h)) _ 1 1 [.string ⟨#[]⟩, .string ⟨(nb a.nm).toArray⟩, .string ⟨(nb a.rs).toArray⟩] rfl rfl (by decide) (by
    have := news_alloc (w8.setCell ⟨w3.heap.size, 2, none⟩ (.string ⟨(nb a.rs).toArray⟩)) [.string ⟨#[]⟩, .string ⟨(nb a.nm).toArray⟩, .string ⟨(nb a.rs).toArray⟩] 110
    first | exact this | (simp only [World.setCell, Array.size_modify] at this ⊢; exact this)) (by intro u hu; simp at hu; rcases hu with rfl | rfl | rfl <;> rfl) (by unfold maxLen; omega) (by omega) ?_
   intro g' c' w10 hrow' hgrow hnb
   replace hrow' := zz hrow'
   replace hgrow := zz hgrow
   replace hnb := zz hnb))
 have hs' := hs.out
 have S := S8.out
 have hN3 : N < w3.heap.size := Nat.lt_of_lt_of_le hs'.bes.lt hsz.out
 have hN8 : N < w8.heap.size := Nat.lt_of_lt_of_le hs'.bes.lt S.size
 have hb8N := hs'.bes.blk S hs'.blk
 obtain ⟨W9, hW9⟩ : ∃ W9, W9 = ((w8.setCell ⟨w3.heap.size, 2, none⟩ (.string ⟨(nb a.rs).toArray⟩)).alloc (.cells #[.string ⟨#[]⟩, .string ⟨(nb a.nm).toArray⟩, .string ⟨(nb a.rs).toArray⟩] 110)) := ⟨_, rfl⟩
 have hg10 := hgrow.out
 have hn10 := hnb.out
 rw [<- hW9] at hg10 hn10
 have f9 : Fr (fun x => x = w3.heap.size) w8 W9 := by rw [hW9]; exact ((Fr.refl (fun x => x = w3.heap.size) w8).set (Or.inl rfl) _ _).alloc _
 have f10 : Fr (fun x => va.ownBlock = some x) W9 w10 := (Fr.refl (fun x => va.ownBlock = some x) W9).grown hg10 (fun k hk => Or.inl hk)
 have f8 : Fr (fun x => x = w3.heap.size \/ va.ownBlock = some x) w8 w10 := (f9.mono (fun x hx => Or.inl (Or.inl hx))).trans f10 (fun x hx => Or.inl (Or.inr hx))
 have hva8 : ∀ k, va.ownBlock = some k -> Beside E w8 v8 k /\ k ≠ N := fun k hk => ⟨(hs'.ro k hk).1.step S, (hs'.ro k hk).2⟩
 refine hK.out _ w10 v8 _ (nb a.rs) ⟨rfl, rfl, rfl, rfl, rfl⟩ ⟨?_, hv8.out, ?_, ?_, ?_, ?_⟩ ⟨?_, S.nw, ?_⟩
 ·refine d8.out.out f8 (fun x hx => ?_) (fun x hx => ?_)
  ·rintro (h | h)
   ·have := b8.out.five; omega
   ·have := (hva8 x h).1.five; omega
  ·rintro (h | h)
   ·exact b8.out.no (h ▸ hx)
   ·exact (hva8 x h).1.no hx
 ·exact (hs'.bes.step S).fr f8
 ·refine hb8N.keep f8 ?_
  rintro (h | h)
  ·omega
  ·exact (hva8 N h).2 rfl
 ·have e1 : (ats ++ [a]).length = ats.length + 1 := by simp
  have e2 : (ats ++ [a]).flatMap At.cells = ats.flatMap At.cells ++ [.string ⟨#[]⟩, .string ⟨(nb a.nm).toArray⟩, .string ⟨(nb a.rs).toArray⟩] := by simp [At.cells]
  rw [e1, e2]
  exact hrow'.out
 ·intro k hk
  have hk2 : k = g' := by simpa [Value.ownBlock, eq_comm] using hk
  subst hk2
  rcases hn10 with h | h
  ·exact ⟨(hva8 _ h).1.fr f8, (hva8 _ h).2⟩
  ·have h9 := f9.size
   refine ⟨⟨ownsRow_lt hrow'.out rfl, by have := b8.out.five; have := b8.out.lt; omega, fun hx => ?_⟩, by omega⟩
   have := d8.out.own_lt _ hx
   omega
 ·refine (S.fr.mono (fun x hx => Or.inl (Or.inl hx))).trans f8 ?_
  rintro x (h | h)
  ·right; rw [h]; exact hsz.out
  ·left; right; right; exact h
 ·intro k hk
  have hk2 : k = g' := by simpa [Value.ownBlock, eq_comm] using hk
  subst hk2
  rcases hn10 with h | h
  ·exact Or.inl h
  ·right; have := f9.size; have := S.size; omega
end
section
open Go.RowKit
structure FrSE (D N : Nat) (emp : Bool) (va : Value) (t : Array Value) : Prop where
 size : t.size = 731
 s0 : t[0]? = some (.pointer (some ⟨D, 0, none⟩))
 s28 : t[28]? = some (.pointer (some ⟨N, 0, none⟩))
 s29 : t[29]? = some (.bool emp)
 s30 : t[30]? = some va
def endSrc (emp : Bool) (tl : List UInt8) : List UInt8 := if emp then 47 :: 62 :: tl else 62 :: tl
theorem start_end_o (E : Dx) (p : Pa) (v : Value) (bs ws tl : List UInt8) (N : Nat) (va : Value) (u : Nat -> Value) (wr : World) (K : Act -> World -> Prop) (Q0 : Exit -> Act -> World -> Prop)
  (hws : ∀ b ∈ ws, isWs b = true) (hD : Dec E wr p v bs true false (ws ++ 62 :: tl))
  (hQ : ∀ (t' : Array Value) (w' : World), FrSE E.D N false va t' -> Dec E w' p v bs true false tl -> Fr E.rd wr w' -> Q0 (.exit 17) ⟨t', []⟩ w') :
  body66.wp Tryz.prog (Exit.then K Q0) ⟨((List.range 731).map (gS E.D N va u)).toArray, []⟩ wr := by
 rw [gS_lit]
 replace hQ := zz hQ
 conv => arg 2; whnf
 have hsp := (space_do E p v bs ws 62 (tl) wr hws (by decide) hD).mono (R' := fun e w' => e = .returned (.tuple #[]) /\ Hid (Dec E w' p v bs true false (62 :: tl) /\ Fr E.rd wr w')) (fun _ _ h => h)
 have hm1 : ∀ w1, Dec E w1 p v bs true false (62 :: tl) -> Calls Tryz.prog 114 #[.pointer (some ⟨E.D, 0, none⟩)] w1 fun e w' => e = .returned (.tuple #[.int .u8 62, .bool true]) /\ Hid (Dec E w' p v bs false false (tl) /\ Fr E.rd w1 w') := fun w1 hd => mustgetc_cons E p v bs true 62 _ w1 hd
 replace hm1 := zz hm1
 clear hD
 go_wp2_with (first | (go_at_call 116; refine hsp.mono ?_; rintro e w1 ⟨rfl, k1⟩) | (go_at_call 114; refine (hm1.out w1 k1.out.1).mono ?_; rintro e w2 ⟨rfl, k2⟩; clear hm1))
 exact hQ.out _ _ ⟨rfl, rfl, rfl, rfl, rfl⟩ k2.out.1.up (k1.out.2.trans k2.out.2 (fun x hx => Or.inl hx))
theorem start_end_e (E : Dx) (p : Pa) (v : Value) (bs ws tl : List UInt8) (N : Nat) (va : Value) (u : Nat -> Value) (wr : World) (K : Act -> World -> Prop) (Q0 : Exit -> Act -> World -> Prop)
  (hws : ∀ b ∈ ws, isWs b = true) (hD : Dec E wr p v bs true false (ws ++ 47 :: 62 :: tl))
  (hQ : ∀ (t' : Array Value) (w' : World), FrSE E.D N true va t' -> Dec E w' p v bs true false tl -> Fr E.rd wr w' -> Q0 (.exit 17) ⟨t', []⟩ w') :
  body66.wp Tryz.prog (Exit.then K Q0) ⟨((List.range 731).map (gS E.D N va u)).toArray, []⟩ wr := by
 rw [gS_lit]
 replace hQ := zz hQ
 conv => arg 2; whnf
 have hsp := (space_do E p v bs ws 47 (62 :: tl) wr hws (by decide) hD).mono (R' := fun e w' => e = .returned (.tuple #[]) /\ Hid (Dec E w' p v bs true false (47 :: 62 :: tl) /\ Fr E.rd wr w')) (fun _ _ h => h)
 have hm1 : ∀ w1, Dec E w1 p v bs true false (47 :: 62 :: tl) -> Calls Tryz.prog 114 #[.pointer (some ⟨E.D, 0, none⟩)] w1 fun e w' => e = .returned (.tuple #[.int .u8 47, .bool true]) /\ Hid (Dec E w' p v bs false false (62 :: tl) /\ Fr E.rd w1 w') := fun w1 hd => mustgetc_cons E p v bs true 47 _ w1 hd
 replace hm1 := zz hm1
 have hm2 : ∀ w1, Dec E w1 p v bs false false (62 :: tl) -> Calls Tryz.prog 114 #[.pointer (some ⟨E.D, 0, none⟩)] w1 fun e w' => e = .returned (.tuple #[.int .u8 62, .bool true]) /\ Hid (Dec E w' p v bs false false tl /\ Fr E.rd w1 w') := fun w1 hd => mustgetc_cons E p v bs false 62 _ w1 hd
 replace hm2 := zz hm2
 clear hD
 go_wp2_with (first | (go_at_call 116; refine hsp.mono ?_; rintro e w1 ⟨rfl, k1⟩) | (go_at_call 114; refine (hm1.out w1 k1.out.1).mono ?_; rintro e w2 ⟨rfl, k2⟩; clear hm1) | (go_at_call 114; refine (hm2.out w2 k2.out.1).mono ?_; rintro e w3 ⟨rfl, k3⟩; clear hm2))
 exact hQ.out _ _ ⟨rfl, rfl, rfl, rfl, rfl⟩ k3.out.1.up ((k1.out.2.trans k2.out.2 (fun x hx => Or.inl hx)).trans k3.out.2 (fun x hx => Or.inl hx))
end
end Go.Proofs.YtepbbahdhhjibaaGreatDoor
