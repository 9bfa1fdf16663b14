/- own text -/
import Derived.Test.YtepbbahdhhjibaaGreatDoorD14
namespace Go.Proofs.YtepbbahdhhjibaaGreatDoor
set_option linter.unusedSimpArgs false
set_option linter.unusedVariables false
set_option maxHeartbeats 8000000
set_option maxRecDepth 1000000
section
open Go.RowKit
def gSE (D N : Nat) (emp : Bool) (va : Value) (u : Nat -> Value) : Nat -> Value
 | 0 => .pointer (some ⟨D, 0, none⟩)
 | 28 => .pointer (some ⟨N, 0, none⟩)
 | 29 => .bool emp
 | 30 => va
 | k => u k
theorem FrSE.eq {D N : Nat} {emp : Bool} {va : Value} {t : Array Value} (h : FrSE D N emp va t) : t = ((List.range 731).map (gSE D N emp va (fun k => t.getD k (.bool false)))).toArray := by
 apply arr_range t 731 _ h.size
 intro k hk
 have hd : t[k]? = some (t.getD k (.bool false)) := by
  have hk2 : k < t.size := by rw [h.size]; exact hk
  simp [hk2]
 unfold gSE
 split
 ·exact h.s0
 ·exact h.s28
 ·exact h.s29
 ·exact h.s30
 ·exact hd
theorem gSE_lit (D N : Nat) (emp : Bool) (va : Value) (u : Nat -> Value) : ((List.range 731).map (gSE D N emp va u)).toArray = #[.pointer (some ⟨D, 0, none⟩), u 1, u 2, u 3, u 4, u 5, u 6, u 7, u 8, u 9, u 10, u 11, u 12, u 13, u 14, u 15, u 16, u 17, u 18, u 19, u 20, u 21, u 22, u 23, u 24, u 25, u 26, u 27, .pointer (some ⟨N, 0, none⟩), .bool emp, va, u 31, u 32, u 33, u 34, u 35, u 36, u 37, u 38, u 39, u 40, u 41, u 42, u 43, u 44, u 45, u 46, u 47, u 48, u 49, u 50, u 51, u 52, u 53, u 54, u 55, u 56, u 57, u 58, u 59, u 60, u 61, u 62, u 63, u 64, u 65, u 66, u 67, u 68, u 69, u 70, u 71, u 72, u 73, u 74, u 75, u 76, u 77, u 78, u 79, u 80, u 81, u 82, u 83, u 84, u 85, u 86, u 87, u 88, u 89, u 90, u 91, u 92, u 93, u 94, u 95, u 96, u 97, u 98, u 99, u 100, u 101, u 102, u 103, u 104, u 105, u 106, u 107, u 108, u 109, u 110, u 111, u 112, u 113, u 114, u 115, u 116, u 117, u 118, u 119, u 120, u 121, u 122, u 123, u 124, u 125, u 126, u 127, u 128, u 129, u 130, u 131, u 132, u 133, u 134, u 135, u 136, u 137, u 138, u 139, u 140, u 141, u 142, u 143, u 144, u 145, u 146, u 147, u 148, u 149, u 150, u 151, u 152, u 153, u 154, u 155, u 156, u 157, u 158, u 159, u 160, u 161, u 162, u 163, u 164, u 165, u 166, u 167, u 168, u 169, u 170, u 171, u 172, u 173, u 174, u 175, u 176, u 177, u 178, u 179, u 180, u 181, u 182, u 183, u 184, u 185, u 186, u 187, u 188, u 189, u 190, u 191, u 192, u 193, u 194, u 195, u 196, u 197, u 198, u 199, u 200, u 201, u 202, u 203, u 204, u 205, u 206, u 207, u 208, u 209, u 210, u 211, u 212, u 213, u 214, u 215, u 216, u 217, u 218, u 219, u 220, u 221, u 222, u 223, u 224, u 225, u 226, u 227, u 228, u 229, u 230, u 231, u 232, u 233, u 234, u 235, u 236, u 237, u 238, u 239, u 240, u 241, u 242, u 243, u 244, u 245, u 246, u 247, u 248, u 249, u 250, u 251, u 252, u 253, u 254, u 255, u 256, u 257, u 258, u 259, u 260, u 261, u 262, u 263, u 264, u 265, u 266, u 267, u 268, u 269, u 270, u 271, u 272, u 273, u 274, u 275, u 276, u 277, u 278, u 279, u 280, u 281, u 282, u 283, u 284, u 285, u 286, u 287, u 288, u 289, u 290, u 291, u 292, u 293, u 294, u 295, u 296, u 297, u 298, u 299, u 300, u 301, u 302, u 303, u 304, u 305, u 306, u 307, u 308, u 309, u 310, u 311, u 312, u 313, u 314, u 315, u 316, u 317, u 318, u 319, u 320, u 321, u 322, u 323, u 324, u 325, u 326, u 327, u 328, u 329, u 330, u 331, u 332, u 333, u 334, u 335, u 336, u 337, u 338, u 339, u 340, u 341, u 342, u 343, u 344, u 345, u 346, u 347, u 348, u 349, u 350, u 351, u 352, u 353, u 354, u 355, u 356, u 357, u 358, u 359, u 360, u 361, u 362, u 363, u 364, u 365, u 366, u 367, u 368, u 369, u 370, u 371, u 372, u 373, u 374, u 375, u 376, u 377, u 378, u 379, u 380, u 381, u 382, u 383, u 384, u 385, u 386, u 387, u 388, u 389, u 390, u 391, u 392, u 393, u 394, u 395, u 396, u 397, u 398, u 399, u 400, u 401, u 402, u 403, u 404, u 405, u 406, u 407, u 408, u 409, u 410, u 411, u 412, u 413, u 414, u 415, u 416, u 417, u 418, u 419, u 420, u 421, u 422, u 423, u 424, u 425, u 426, u 427, u 428, u 429, u 430, u 431, u 432, u 433, u 434, u 435, u 436, u 437, u 438, u 439, u 440, u 441, u 442, u 443, u 444, u 445, u 446, u 447, u 448, u 449, u 450, u 451, u 452, u 453, u 454, u 455, u 456, u 457, u 458, u 459, u 460, u 461, u 462, u 463, u 464, u 465, u 466, u 467, u 468, u 469, u 470, u 471, u 472, u 473, u 474, u 475, u 476, u 477, u 478, u 479, u 480, u 481, u 482, u 483, u 484, u 485, u 486, u 487, u 488, u 489, u 490, u 491, u 492, u 493, u 494, u 495, u 496, u 497, u 498, u 499, u 500, u 501, u 502, u 503, u 504, u 505, u 506, u 507, u 508, u 509, u 510, u 511, u 512, u 513, u 514, u 515, u 516, u 517, u 518, u 519, u 520, u 521, u 522, u 523, u 524, u 525, u 526, u 527, u 528, u 529, u 530, u 531, u 532, u 533, u 534, u 535, u 536, u 537, u 538, u 539, u 540, u 541, u 542, u 543, u 544, u 545, u 546, u 547, u 548, u 549, u 550, u 551, u 552, u 553, u 554, u 555, u 556, u 557, u 558, u 559, u 560, u 561, u 562, u 563, u 564, u 565, u 566, u 567, u 568, u 569, u 570, u 571, u 572, u 573, u 574, u 575, u 576, u 577, u 578, u 579, u 580, u 581, u 582, u 583, u 584, u 585, u 586, u 587, u 588, u 589, u 590, u 591, u 592, u 593, u 594, u 595, u 596, u 597, u 598, u 599, u 600, u 601, u 602, u 603, u 604, u 605, u 606, u 607, u 608, u 609, u 610, u 611, u 612, u 613, u 614, u 615, u 616, u 617, u 618, u 619, u 620, u 621, u 622, u 623, u 624, u 625, u 626, u 627, u 628, u 629, u 630, u 631, u 632, u 633, u 634, u 635, u 636, u 637, u 638, u 639, u 640, u 641, u 642, u 643, u 644, u 645, u 646, u 647, u 648, u 649, u 650, u 651, u 652, u 653, u 654, u 655, u 656, u 657, u 658, u 659, u 660, u 661, u 662, u 663, u 664, u 665, u 666, u 667, u 668, u 669, u 670, u 671, u 672, u 673, u 674, u 675, u 676, u 677, u 678, u 679, u 680, u 681, u 682, u 683, u 684, u 685, u 686, u 687, u 688, u 689, u 690, u 691, u 692, u 693, u 694, u 695, u 696, u 697, u 698, u 699, u 700, u 701, u 702, u 703, u 704, u 705, u 706, u 707, u 708, u 709, u 710, u 711, u 712, u 713, u 714, u 715, u 716, u 717, u 718, u 719, u 720, u 721, u 722, u 723, u 724, u 725, u 726, u 727, u 728, u 729, u 730] := by kernel_rfl
theorem SSt.refl (E : Dx) (w : World) (v : Value) (N : Nat) (va : Value) : SSt E w v N va w v va := ⟨Fr.refl _ w, Nw.refl _ _, Nw.refl _ _⟩
theorem SSt.trans {E : Dx} {w w1 w2 : World} {v v1 v2 va va1 va2 : Value} {N : Nat} (h : SSt E w v N va w1 v1 va1) (k : SSt E w1 v1 N va1 w2 v2 va2) : SSt E w v N va w2 v2 va2 :=
 ⟨h.fr.trans k.fr (by
  rintro x ((hx | hx) | hx | hx)
  ·exact Or.inl (Or.inl (Or.inl hx))
  ·exact (h.nw x hx).imp (fun h => Or.inl (Or.inr h)) id
  ·exact Or.inl (Or.inr (Or.inl hx))
  ·exact (h.nr x hx).imp (fun h => Or.inr (Or.inr h)) id), h.nw.trans k.nw h.fr.size, h.nr.trans k.nr h.fr.size⟩
theorem SSt.rd {E : Dx} {w w' : World} (v : Value) (N : Nat) (va : Value) (h : Fr E.rd w w') : SSt E w v N va w' v va := ⟨h.mono (fun x hx => Or.inl (Or.inl (Or.inl hx))), Nw.refl _ _, Nw.refl _ _⟩
theorem SS.rd {E : Dx} {w w' : World} {p : Pa} {v : Value} {bs strm strm' : List UInt8} {N : Nat} {nm : List Nat} {va : Value} {ats : List At} (h : SS E w p v bs strm N nm va ats) (hd : Dec E w' p v bs true false strm') (f : Fr E.rd w w') : SS E w' p v bs strm' N nm va ats :=
 ⟨hd, h.ne, h.bes.fr f, h.bes.blkRd f h.blk, ownsRow_frame h.row f (fun k hk hx => (h.ro k hk).1.no (.inl hx)), fun k hk => ⟨(h.ro k hk).1.fr f, (h.ro k hk).2⟩⟩
theorem start_loop (E : Dx) (p : Pa) (v : Value) (bs : List UInt8) (ws tl : List UInt8) (N : Nat) (nm : List Nat) (emp : Bool) (va : Value) (ats : List At) (t : Array Value) (w : World) (Q0 : Exit -> Act -> World -> Prop)
  (hok : ∀ a ∈ ats, a.ok) (hal : ∀ a ∈ ats, a.src.length <= 1099511627000) (hn : ats.length <= 549755813888) (hws : ∀ b ∈ ws, isWs b = true) (ht : FrS E.D N va t) (hs : SS E w p v bs (ats.flatMap At.src ++ (ws ++ endSrc emp tl)) N nm va [])
  (hQ : ∀ (t' : Array Value) (w' : World) (v' va' : Value) (bs' : List UInt8), FrSE E.D N emp va' t' -> SS E w' p v' bs' tl N nm va' ats -> SSt E w v N va w' v' va' -> Q0 (.exit 17) ⟨t', []⟩ w') :
  (Code.loop body66).wp Tryz.prog Q0 ⟨t, []⟩ w := by
 refine wp_loop_ghost_k (fun k a w' => a.defers = [] /\ ∃ (done rest : List At) (v' va' : Value) (bs' : List UInt8), rest.length = k /\ ats = done ++ rest /\ FrS E.D N va' a.tmps /\ SS E w' p v' bs' (rest.flatMap At.src ++ (ws ++ endSrc emp tl)) N nm va' done /\ SSt E w v N va w' v' va') ats.length ?_ ?_
 ·exact ⟨rfl, [], ats, v, va, bs, rfl, rfl, ht, hs, SSt.refl E w v N va⟩
 ·rintro k ⟨t1, d1⟩ w1 ⟨hd, done, rest, v1, va1, bs1, hk, hats, ht1, hs1, hS1⟩ J K hJ hK
  have hd' : d1 = [] := hd
  subst hd'
  cases rest with
  | nil =>
   have hdo : ats = done := by simpa using hats
   have ht1' : FrS E.D N va1 t1 := ht1
   rw [ht1'.eq]
   cases emp with
   | false =>
    refine start_end_o E p v1 bs1 ws tl N va1 (fun k => t1.getD k (.bool false)) w1 K Q0 hws hs1.dec ?_
    intro t' w' ht' hd' hf
    rw [hdo] at hQ
    exact hQ t' w' v1 va1 bs1 ht' (hs1.rd hd' hf) (hS1.trans (SSt.rd _ _ _ hf))
   | true =>
    refine start_end_e E p v1 bs1 ws tl N va1 (fun k => t1.getD k (.bool false)) w1 K Q0 hws hs1.dec ?_
    intro t' w' ht' hd' hf
    rw [hdo] at hQ
    exact hQ t' w' v1 va1 bs1 ht' (hs1.rd hd' hf) (hS1.trans (SSt.rd _ _ _ hf))
  | cons a rest =>
   have hin : a ∈ ats := by rw [hats]; simp
   have hdl : done.length <= 549755813888 := by rw [hats] at hn; simp at hn; omega
   have hs2 : SS E w1 p v1 bs1 (a.src ++ (rest.flatMap At.src ++ (ws ++ endSrc emp tl))) N nm va1 done := by
    have e : (a :: rest).flatMap At.src ++ (ws ++ endSrc emp tl) = a.src ++ (rest.flatMap At.src ++ (ws ++ endSrc emp tl)) := by simp
    rw [e] at hs1; exact hs1
   have ht1' : FrS E.D N va1 t1 := ht1
   rw [ht1'.eq]
   refine start_round E p v1 bs1 _ N nm va1 done a (fun k => t1.getD k (.bool false)) w1 K Q0 (hok a hin) (hal a hin) hs2 hdl ?_
   intro t' w' v' va' bs' ht' hs' hS'
   exact hK _ _ (Handed.intro rest.length (by rw [<- hk]; simp) (hJ _ _ _ ⟨rfl, done ++ [a], rest, v', va', bs', rfl, by rw [hats]; simp, ht', hs', hS1.trans hS'⟩))
theorem Dec.pa {E : Dx} {w w' : World} {p p' : Pa} {v : Value} {bs strm : List UInt8} {nb eo : Bool} (h : Dec E w p v bs nb eo strm)
  (hb : ∀ (x9 : Value) (n line ls off : Int), Blk w E.D (decA E p v x9 n (if eo then E.eof else .nilIface) line ls off) 152 -> Blk w' E.D (decA E p' v x9 n (if eo then E.eof else .nilIface) line ls off) 152)
  (hf : Fr (fun x => x = E.D) w w') : Dec E w' p' v bs nb eo strm := by
 obtain ⟨⟨x9, n, line, ls, off, rest, a, b, c⟩, e0, e1, e2, eu, e3, e4, e5⟩ := h
 have hD : 5 <= E.D := by omega
 refine ⟨⟨x9, n, line, ls, off, rest, hb _ _ _ _ _ a, b.keep hf (Ne.symm e4.1) (Ne.symm e4.2.1) (Ne.symm e4.2.2), c⟩, e0, e1.keep hf (fun k hk h => (e5 k hk).2.1 h), hf.cell (fun h => ?_) e2, eu.fr hf (fun h => ?_) (fun h => ?_), e3, e4, e5⟩
 all_goals (first | omega | (simp at h; omega))
def Pa.emp (p : Pa) (emp : Bool) (nm : List Nat) : Pa := if emp then { p with need := true, tcS := ⟨#[]⟩, tcL := ⟨(nb nm).toArray⟩ } else p
theorem rawToken_start (E : Dx) (p : Pa) (v : Value) (bs : List UInt8) (nm : List Nat) (ats : List At) (ws : List UInt8) (emp : Bool) (tl : List UInt8) (w : World) (hp : p.need = false) (hnm : NameOk nm) (hl : (nb nm).length <= 1099511627776)
  (hok : ∀ a ∈ ats, a.ok) (hal : ∀ a ∈ ats, a.src.length <= 1099511627000) (hn : ats.length <= 549755813888) (hws : ∀ b ∈ ws, isWs b = true) (c : UInt8) (t : List UInt8) (hct : ats.flatMap At.src ++ (ws ++ endSrc emp tl) = c :: t) (hc : nmB c = false)
  (h : Dec E w p v bs true false (60 :: (nb nm ++ (ats.flatMap At.src ++ (ws ++ endSrc emp tl))))) :
  Calls Tryz.prog 66 #[.pointer (some ⟨E.D, 0, none⟩)] w fun e w' => ∃ va v' bs', e = .returned (.tuple #[.iface 108 (.agg #[.string ⟨#[]⟩, .string ⟨(nb nm).toArray⟩, va]), .nilIface]) /\ Dec E w' (p.emp emp nm) v' bs' true false tl /\ St E w v w' v' /\ v' ≠ .slice none 0 0 /\
   w'.ownsRow 0 110 3 va ats.length (ats.flatMap At.cells) /\ (∀ k, va.ownBlock = some k -> Beside E w' v' k /\ w.heap.size <= k) := by
 obtain ⟨c6, c20, c14, c0⟩ := h.cells
 rw [hp] at c14
 have c20' : w.cell? ⟨E.D, 20, none⟩ = some .nilIface := c20
 clear c20
 obtain ⟨b0, t0, hb0, hnb0⟩ := hnm.head
 obtain ⟨hq1, hq2, hq3, hq4, hq5, hq6⟩ := nmB_not hnb0
 have e47 : ((b0.toNat : Int) == 47) = false := u8_ne (n := 47) (by decide) (by rw [beq_eq_false_iff_ne]; exact hq2)
 have e33 : ((b0.toNat : Int) == 33) = false := u8_ne (n := 33) (by decide) (by rw [beq_eq_false_iff_ne]; exact hq4)
 have e63 : ((b0.toNat : Int) == 63) = false := u8_ne (n := 63) (by decide) (by rw [beq_eq_false_iff_ne]; exact hq5)
 generalize hR : ats.flatMap At.src ++ (ws ++ endSrc emp tl) = R at *
 have hsrc2 : nb nm ++ R = b0 :: (t0 ++ R) := by rw [hb0]; rfl
 have hg := (getc_cons E p v bs true 60 (nb nm ++ R) w h).mono (R' := fun e w' => e = .returned (.tuple #[.int .u8 60, .bool true]) /\ Hid (Dec E w' p v bs false false (b0 :: (t0 ++ R)) /\ Fr E.rd w w')) (fun _ _ h => by rw [hsrc2] at h; exact h)
 have hmg : ∀ w1, Dec E w1 p v bs false false (b0 :: (t0 ++ R)) -> Calls Tryz.prog 114 #[.pointer (some ⟨E.D, 0, none⟩)] w1 fun e w' => e = .returned (.tuple #[.int .u8 b0.toNat, .bool true]) /\ Hid (Dec E w' p v bs false false (t0 ++ R) /\ Fr E.rd w1 w') := fun w1 hd => mustgetc_cons E p v bs false b0 _ w1 hd
 have hun : ∀ w1, Dec E w1 p v bs false false (t0 ++ R) -> Calls Tryz.prog 112 #[.pointer (some ⟨E.D, 0, none⟩), .int .u8 b0.toNat] w1 fun e w' => e = .returned (.tuple #[]) /\ Hid (Dec E w' p v bs true false (nb nm ++ R) /\ Fr E.rd w1 w') := fun w1 hd => by
  have := ungetc_do' E p v bs b0 _ w1 hd
  rw [<- hsrc2] at this
  exact this
 have hns : ∀ w2, Dec E w2 p v bs true false (nb nm ++ R) -> Calls Tryz.prog 115 #[.pointer (some ⟨E.D, 0, none⟩)] (w2.alloc (.cells nameZ 105)) fun e w3 => e = .returned (.tuple #[.agg #[.string ⟨#[]⟩, .string ⟨(nb nm).toArray⟩], .bool true]) /\
   w3.cell? ⟨w2.heap.size, 0, none⟩ = some (.string ⟨#[]⟩) /\ w3.cell? ⟨w2.heap.size, 1, none⟩ = some (.string ⟨#[]⟩) /\ w3.frozen? ⟨w2.heap.size, 0, none⟩ = false /\ w3.frozen? ⟨w2.heap.size, 1, none⟩ = false /\
   Hid (∃ v', v' ≠ .slice none 0 0 /\ Dec E w3 p v' (nb nm) true false R /\ St E w2 v w3 v' /\ Beside E w3 v' w2.heap.size /\ Blk w3 w2.heap.size nameZ 105) := fun w2 hd => by
  have hold : Old w2 (w2.alloc (.cells nameZ 105)) := (Fr.refl _ w2).alloc _
  have hB := Beside.new hd (.cells nameZ 105)
  have hb := Blk.new w2 nameZ 105
  have hd2 := (hd.old hold).up
  rw [hct] at hd2
  refine (nsname_do E p v bs nm c t _ hnm hc hd2 hl).mono ?_
  rintro e w3 ⟨rfl, v', k0, k1, k2⟩
  rw [<- hct] at k1
  have hb3 := hB.blk k2 hb
  exact ⟨rfl, by rw [hb3.cell]; rfl, by rw [hb3.cell]; rfl, hb3.fz _, hb3.fz _, v', k0, k1, (St.ofOld v hold).trans k2, hB.step k2, hb3⟩
 replace hmg := zz hmg
 replace hun := zz hun
 replace hns := zz hns
 replace hok := zz hok
 replace hal := zz hal
 replace hws := zz hws
 replace hR := zz hR
 replace h := zz h
 clear hct hc hnm hl hb0 hsrc2
 go_enter Tryz.func66, Tryz.ntmps66
 go_wp2_with (first | (go_at_call 111; refine hg.mono ?_; rintro e w1 ⟨rfl, k1⟩) | (go_at_call 114; refine (hmg.out w1 k1.out.1).mono ?_; rintro e w2 ⟨rfl, k2⟩) | (go_at_call 112; refine (hun.out w2 k2.out.1).mono ?_; rintro e w3 ⟨rfl, k3⟩) |
  (go_at_call 115; refine (hns.out w3 k3.out.1).mono ?_; rintro e w4 ⟨rfl, e0, e1, f0, f1, k4⟩; obtain ⟨v4, hv4, d4, s4, b4, l4⟩ := k4.out; replace hv4 := zz hv4; replace d4 := zz d4; replace s4 := zz s4; replace b4 := zz b4; replace l4 := zz l4; clear k4))
 have hsz : w.heap.size <= w3.heap.size := Nat.le_trans k1.out.2.size (Nat.le_trans k2.out.2.size k3.out.2.size)
 have S4 : St E w v w4 v4 := (((St.rd v k1.out.2).andRd k2.out.2).andRd k3.out.2).trans s4.out
 obtain ⟨W, hW⟩ : ∃ W, W = (w4.setCell ⟨w3.heap.size, 0, none⟩ (.string ⟨#[]⟩)).setCell ⟨w3.heap.size, 1, none⟩ (.string ⟨(nb nm).toArray⟩) := ⟨_, rfl⟩
 have hWs : W.heap.size = w4.heap.size := by rw [hW]; simp [World.setCell]
 have hdW : Dec E W p v4 (nb nm) true false R := by rw [hW]; exact (d4.out.setB b4.out 0 _).setB (b4.out.set _ _) 1 _
 have hbW : Beside E W v4 w3.heap.size := by rw [hW]; exact (b4.out.set _ _).set _ _
 have hlW : Blk W w3.heap.size (nameA nm) 105 := by rw [hW]; exact (l4.out.set 0 (.string ⟨#[]⟩)).set 1 (.string ⟨(nb nm).toArray⟩)
 have hSW : St E w v W v4 := by rw [hW]; exact (S4.setB hsz 0 _).setB hsz 1 _
 rw [<- hW, <- hWs]
 have hold : Old W (W.alloc (.cells #[] 110)) := (Fr.refl _ W).alloc _
 have hB5 := Beside.new hdW (.cells #[] 110)
 have hs5 : SS E (W.alloc (.cells #[] 110)) p v4 (nb nm) (ats.flatMap At.src ++ (ws ++ endSrc emp tl)) w3.heap.size nm (.slice (some ⟨W.heap.size, 0, none⟩) 0 0) [] := by
  refine ⟨by rw [hR.out]; exact hdW.old hold, hv4.out, hbW.old hold, hlW.alloc _, ⟨rfl, Or.inr ⟨W.heap.size, 0, #[], rfl, Nat.zero_le _, Blk.new W #[] 110, Nat.le_refl _, Nat.zero_le _, rfl, rfl⟩⟩, ?_⟩
  intro k hk
  have hk2 : k = W.heap.size := by simpa [Value.ownBlock, eq_comm] using hk
  subst hk2
  exact ⟨hB5, by have := hbW.lt; omega⟩
 clear hg hmg hun hns k1 k2 k3 s4 d4 l4 e0 e1 f0 f1 hlW hdW hW
 refine start_loop E p v4 (nb nm) ws tl w3.heap.size nm emp (.slice (some ⟨W.heap.size, 0, none⟩) 0 0) ats _ _ _ hok.out hal.out hn hws.out ⟨rfl, rfl, rfl, rfl, rfl⟩ hs5 ?_
 intro t' w6 v6 va6 bs6 ht6 hs6 hS6
 rw [ht6.eq]
 generalize (fun k => t'.getD k (Value.bool false)) = u
 rw [gSE_lit]
 refine inBlock_exit (then_normal ?_)
 have hNle : w.heap.size <= w3.heap.size := hsz
 have hWle : w.heap.size <= W.heap.size := hSW.size
 have hS : St E w v w6 v6 := ⟨(hSW.fr.old hold).trans hS6.fr (by
  rintro x (hx | hx | hx)
  ·exact hSW.own x hx
  ·right; omega
  ·right
   have : x = W.heap.size := by simpa [Value.ownBlock, eq_comm] using hx
   omega), fun k hk => by
  rcases hS6.nw k hk with h1 | h1
  ·exact hSW.nw k h1
  ·right; have := hold.size; omega⟩
 have hro : ∀ k, va6.ownBlock = some k -> Beside E w6 v6 k /\ w.heap.size <= k := fun k hk => ⟨(hs6.ro k hk).1, by
  rcases hS6.nr k hk with h1 | h1
  ·have : k = W.heap.size := by simpa [Value.ownBlock, eq_comm] using h1
   omega
  ·have := hold.size; omega⟩
 have c0 := hs6.blk.cell 0
 have c1 := hs6.blk.cell 1
 simp [nameA] at c0 c1
 have hDN : E.D ≠ w3.heap.size := fun e => hs6.bes.no (Or.inl (Or.inl e.symm))
 have hND : w3.heap.size ≠ E.D := fun e => hDN e.symm
 have hd6 := hs6.dec
 obtain ⟨x9, n, line, ls, off, rest, aD, _⟩ := hd6.ex
 have q14 := aD.fz 14
 have q15 := aD.fz 15
 have q16 := aD.fz 16
 have d14 := aD.cell 14
 have d15 := aD.cell 15
 have d16 := aD.cell 16
 simp [decA] at d14 d15 d16
 have hrow := hs6.row
 have hne6 := hs6.ne
 obtain ⟨pa, na, ca, hva⟩ : ∃ pa na ca, va6 = .slice pa na ca := by
  rcases hrow.2 with ⟨h1, _⟩ | ⟨g, cap, cur, h1, _⟩
  ·exact ⟨_, _, _, h1⟩
  ·exact ⟨_, _, _, h1⟩
 subst hva
 replace hs6 := zz hs6
 replace hS := zz hS
 replace hro := zz hro
 replace hd6 := zz hd6
 replace hrow := zz hrow
 replace hne6 := zz hne6
 clear hS6 ht6 hs5 hSW hbW hold hB5 aD hR hok hal hws h hWs hWle hNle S4 hsz b4 hv4
 cases emp with
 | false =>
  go_wp2
  go_ret2
  exact ⟨_, rfl, v6, ⟨bs6, hd6.out⟩, hS.out, hne6.out, hrow.out, hro.out⟩
 | true =>
  go_wp2
  go_ret2
  have f6 : Fr (fun x => x = E.D) w6 (((w6.setCell ⟨E.D, 14, none⟩ (.bool true)).setCell ⟨E.D, 15, none⟩ (.string ⟨#[]⟩)).setCell ⟨E.D, 16, none⟩ (.string ⟨(nb nm).toArray⟩)) :=
   (((Fr.refl (fun x => x = E.D) w6).set (Or.inl rfl) _ _).set (Or.inl rfl) _ _).set (Or.inl rfl) _ _
  refine ⟨_, rfl, v6, ⟨bs6, hd6.out.pa (p' := p.emp true nm) (fun x9 n line ls off hb => ((hb.set 14 (.bool true)).set 15 (.string ⟨#[]⟩)).set 16 (.string ⟨(nb nm).toArray⟩)) f6⟩, ?_, hne6.out, ?_, ?_⟩
  ·exact hS.out.andRd (f6.mono (fun x hx => Or.inl (Or.inl hx)))
  ·exact ownsRow_frame hrow.out f6 (fun k hk e => (hro.out k hk).1.no (Or.inl (Or.inl e)))
  ·exact fun k hk => ⟨(hro.out k hk).1.fr f6, (hro.out k hk).2⟩
end
section
open Go.RowKit
def Pa.off (p : Pa) : Pa := { p with need := false }
theorem rawToken_need (E : Dx) (p : Pa) (v : Value) (bs strm : List UInt8) (w : World) (hp : p.need = true) (h : Dec E w p v bs true false strm) :
  Calls Tryz.prog 66 #[.pointer (some ⟨E.D, 0, none⟩)] w fun e w' => e = .returned (.tuple #[.iface 112 (.agg #[.string p.tcS, .string p.tcL]), .nilIface]) /\ Dec E w' p.off v bs true false strm /\ St E w v w' v := by
 obtain ⟨c6, c20, c14, c0⟩ := h.cells
 rw [hp] at c14
 have c20' : w.cell? ⟨E.D, 20, none⟩ = some .nilIface := c20
 clear c20
 obtain ⟨x9, n, line, ls, off, rest, aD, _⟩ := h.ex
 have q14 := aD.fz 14
 have d15 := aD.cell 15
 have d16 := aD.cell 16
 simp [decA] at d15 d16
 have f6 : Fr (fun x => x = E.D) w (w.setCell ⟨E.D, 14, none⟩ (.bool false)) := (Fr.refl (fun x => x = E.D) w).set (Or.inl rfl) _ _
 have hd := zz (h.pa (p' := p.off) (fun x9 n line ls off hb => hb.set 14 (.bool false)) f6)
 clear h aD
 go_enter Tryz.func66, Tryz.ntmps66
 go_wp2
 go_ret2
 exact ⟨rfl, hd.out, (St.rd v (f6.mono (fun x hx => Or.inl (Or.inl hx))))⟩
theorem rawToken_after (E : Dx) (p : Pa) (v : Value) (bs : List UInt8) (w : World) (h : Dec E w p v bs true true []) :
  Calls Tryz.prog 66 #[.pointer (some ⟨E.D, 0, none⟩)] w fun e w' => e = .returned (.tuple #[.nilIface, E.eof]) /\ Dec E w' p v bs true true [] /\ St E w v w' v := by
 obtain ⟨c6, c20, c14, c0⟩ := h.cells
 have c20' : w.cell? ⟨E.D, 20, none⟩ = some (.iface E.et (.pointer (some E.ep))) := c20
 clear c20
 replace h := zz h
 have hE : E.eof = .iface E.et (.pointer (some E.ep)) := rfl
 rw [hE]
 clear hE
 go_enter Tryz.func66, Tryz.ntmps66
 go_wp2
 go_quiet (fail)
 go_wp2
 go_ret2
 exact ⟨rfl, h.out.drewN _, (St.refl E w v).drewN _⟩
end
section
open Go.RowKit
def nodeZ : Array Value := #[.pointer none, .int .i64 0, .string ⟨#[]⟩, .string ⟨#[]⟩, .bool false]
def nodeA (nx : Value) (nm : ByteArray) : Array Value := #[nx, .int .i64 0, .string ⟨#[]⟩, .string nm, .bool false]
def Lst (w : World) : Value -> List ByteArray -> List Nat -> Prop
 | v, [], [] => v = .pointer none
 | v, nm :: ns, b :: bs => v = .pointer (some ⟨b, 0, none⟩) /\ ∃ nx, Blk w b (nodeA nx nm) 156 /\ Lst w nx ns bs
 | _, [], _ :: _ => False
 | _, _ :: _, [] => False
theorem Lst.keep {F : Nat -> Prop} {w w' : World} (f : Fr F w w') : ∀ {v : Value} {ns : List ByteArray} {bs : List Nat}, Lst w v ns bs -> (∀ b ∈ bs, ¬ F b) -> Lst w' v ns bs := by
 intro v ns bs
 induction ns generalizing v bs with
 | nil => cases bs with
  | nil => intro h _; exact h
  | cons b bs => intro h _; exact h
 | cons nm ns ih => cases bs with
  | nil => intro h _; exact h
  | cons b bs =>
   rintro ⟨h0, nx, h1, h2⟩ hF
   exact ⟨h0, nx, h1.keep f (hF b (by simp)), ih h2 (fun x hx => hF x (by simp [hx]))⟩
def nameB (nm : List Nat) : ByteArray := ⟨(nb nm).toArray⟩
structure Stk (E : Dx) (w : World) (v : Value) (p : Pa) (opn : List (List Nat)) (nodes : List Nat) : Prop where
 ex : ∃ sb fn fb, Lst w p.stk (opn.map nameB) sb /\ Lst w p.free fn fb /\ nodes = sb ++ fb
 nd : nodes.Nodup
 bes : ∀ x ∈ nodes, Beside E w v x
 dep : p.depth = opn.length
 mp : ∃ b clk, E.ns = .map (some b) /\ w.heap[b]? = some (.map #[] clk) /\ Beside E w v b /\ b ∉ nodes
theorem Stk.step {E : Dx} {w w' : World} {v v' : Value} {p : Pa} {opn : List (List Nat)} {nodes : List Nat} (h : Stk E w v p opn nodes) (s : St E w v w' v') : Stk E w' v' p opn nodes := by
 obtain ⟨⟨sb, fn, fb, h1, h2, h3⟩, h4, h5, h6, b, clk, m1, m2, m3, m4⟩ := h
 exact ⟨⟨sb, fn, fb, h1.keep s.fr (fun x hx => (h5 x (by rw [h3]; simp [hx])).no), h2.keep s.fr (fun x hx => (h5 x (by rw [h3]; simp [hx])).no), h3⟩, h4, fun x hx => (h5 x hx).step s, h6, b, clk, m1, s.fr.heap m3.no m2, m3.step s, m4⟩
theorem Stk.pa {E : Dx} {w : World} {v : Value} {p p' : Pa} {opn : List (List Nat)} {nodes : List Nat} (h : Stk E w v p opn nodes) (h1 : p'.stk = p.stk) (h2 : p'.free = p.free) (h3 : p'.depth = p.depth) : Stk E w v p' opn nodes :=
 ⟨by rw [h1, h2]; exact h.ex, h.nd, h.bes, by rw [h3]; exact h.dep, h.mp⟩
theorem push_new (D : Nat) (stk : Value) (n : Int) (w : World) (hstk : stk.oneCell' = true) (hn : 0 <= n /\ n <= 1099511627776) (c11 : w.cell? ⟨D, 11, none⟩ = some stk) (hp : ∃ a, stk = .pointer a) (c12 : w.cell? ⟨D, 12, none⟩ = some (.int .i64 n)) (c13 : w.cell? ⟨D, 13, none⟩ = some (.pointer none))
  (f11 : w.frozen? ⟨D, 11, none⟩ = false) (f12 : w.frozen? ⟨D, 12, none⟩ = false) (hD : D < w.heap.size) :
  Calls Tryz.prog 126 #[.pointer (some ⟨D, 0, none⟩), .int .i64 0] w fun e w' => e = .returned (.pointer (some ⟨w.heap.size, 0, none⟩)) /\
   w' = ((w.setCell ⟨D, 12, none⟩ (.int .i64 (n + 1))).setCell ⟨D, 11, none⟩ (.pointer (some ⟨w.heap.size, 0, none⟩))).alloc (.cells (nodeA stk ⟨#[]⟩) 156) := by
 have hw : IntKind.i64.wrap (n + 1) = n + 1 := IntWalk.i64_in _ (by omega)
 obtain ⟨a, rfl⟩ := hp
 have hne : D ≠ w.heap.size := by omega
 have hne2 : w.heap.size ≠ D := by omega
 go_enter Tryz.func126, Tryz.ntmps126
 go_wp2
 go_ret
 exact ⟨rfl, rfl⟩
theorem push_old (D b : Nat) (stk : Value) (n : Int) (nx x1 : Value) (w : World) (hn : 0 <= n /\ n <= 1099511627776) (c11 : w.cell? ⟨D, 11, none⟩ = some stk) (hp : ∃ a, stk = .pointer a) (hp2 : ∃ a, nx = .pointer a) (c12 : w.cell? ⟨D, 12, none⟩ = some (.int .i64 n)) (c13 : w.cell? ⟨D, 13, none⟩ = some (.pointer (some ⟨b, 0, none⟩)))
  (f11 : w.frozen? ⟨D, 11, none⟩ = false) (f12 : w.frozen? ⟨D, 12, none⟩ = false) (f13 : w.frozen? ⟨D, 13, none⟩ = false) (hDb : D ≠ b) (b0 : w.cell? ⟨b, 0, none⟩ = some nx) (b1 : w.cell? ⟨b, 1, none⟩ = some x1) (q0 : w.frozen? ⟨b, 0, none⟩ = false) (q1 : w.frozen? ⟨b, 1, none⟩ = false) :
  Calls Tryz.prog 126 #[.pointer (some ⟨D, 0, none⟩), .int .i64 0] w fun e w' => e = .returned (.pointer (some ⟨b, 0, none⟩)) /\
   w' = ((((w.setCell ⟨D, 13, none⟩ nx).setCell ⟨b, 0, none⟩ stk).setCell ⟨b, 1, none⟩ (.int .i64 0)).setCell ⟨D, 12, none⟩ (.int .i64 (n + 1))).setCell ⟨D, 11, none⟩ (.pointer (some ⟨b, 0, none⟩)) := by
 have hw : IntKind.i64.wrap (n + 1) = n + 1 := IntWalk.i64_in _ (by omega)
 obtain ⟨a, rfl⟩ := hp
 obtain ⟨a2, rfl⟩ := hp2
 have hne2 : b ≠ D := Ne.symm hDb
 go_enter Tryz.func126, Tryz.ntmps126
 go_wp2
 go_ret
 exact ⟨rfl, rfl⟩
theorem pop_raw (D b : Nat) (fr nx : Value) (n : Int) (w : World) (hn : 1 <= n /\ n <= 1099511627776) (c11 : w.cell? ⟨D, 11, none⟩ = some (.pointer (some ⟨b, 0, none⟩))) (hp : ∃ a, fr = .pointer a) (hp2 : ∃ a, nx = .pointer a) (c12 : w.cell? ⟨D, 12, none⟩ = some (.int .i64 n)) (c13 : w.cell? ⟨D, 13, none⟩ = some fr)
  (f11 : w.frozen? ⟨D, 11, none⟩ = false) (f12 : w.frozen? ⟨D, 12, none⟩ = false) (f13 : w.frozen? ⟨D, 13, none⟩ = false) (hDb : D ≠ b) (b0 : w.cell? ⟨b, 0, none⟩ = some nx) (b1 : w.cell? ⟨b, 1, none⟩ = some (.int .i64 0)) (q0 : w.frozen? ⟨b, 0, none⟩ = false) :
  Calls Tryz.prog 127 #[.pointer (some ⟨D, 0, none⟩)] w fun e w' => e = .returned (.pointer (some ⟨b, 0, none⟩)) /\
   w' = (((w.setCell ⟨D, 12, none⟩ (.int .i64 (n - 1))).setCell ⟨D, 11, none⟩ nx).setCell ⟨b, 0, none⟩ fr).setCell ⟨D, 13, none⟩ (.pointer (some ⟨b, 0, none⟩)) := by
 have hw : IntKind.i64.wrap (n - 1) = n - 1 := IntWalk.i64_in _ (by omega)
 obtain ⟨a, rfl⟩ := hp
 obtain ⟨a2, rfl⟩ := hp2
 have hne2 : b ≠ D := Ne.symm hDb
 go_enter Tryz.func127, Tryz.ntmps127
 go_wp2
 go_ret
 exact ⟨rfl, rfl⟩
theorem Lst.ptr {w : World} {v : Value} {ns : List ByteArray} {bs : List Nat} (h : Lst w v ns bs) : ∃ a, v = .pointer a := by
 cases ns with
 | nil => cases bs with
  | nil => exact ⟨_, h⟩
  | cons b bs => exact h.elim
 | cons nm ns => cases bs with
  | nil => exact h.elim
  | cons b bs => exact ⟨_, h.1⟩
theorem Fr.cellsNe {w : World} {F : Nat -> Prop} {D : Nat} {T : TypeId} {cs : Array Value} {w' : World} (h : Blk w D cs T) (f : Fr F w w') (hF : ¬ F D) : Blk w' D cs T := h.keep f hF
structure Pushed (E : Dx) (w : World) (v : Value) (p : Pa) (opn : List (List Nat)) (nodes : List Nat) (bs strm : List UInt8) (nb eo : Bool) (b : Nat) (w' : World) : Prop where
 ex : ∃ (fr' : Value) (old : ByteArray) (sb : List Nat) (fn : List ByteArray) (fb : List Nat), Dec E w' { p with stk := .pointer (some ⟨b, 0, none⟩), depth := p.depth + 1, free := fr' } v bs nb eo strm /\ Blk w' b (nodeA p.stk old) 156 /\ Lst w' p.stk (opn.map nameB) sb /\ Lst w' fr' fn fb /\ (b :: (sb ++ fb)).Nodup /\
  ∀ x ∈ b :: (sb ++ fb), Beside E w' v x /\ (x ∈ nodes \/ w.heap.size <= x)
 fr : Fr (fun x => x = E.D \/ x ∈ nodes) w w'
theorem push_do (E : Dx) (p : Pa) (v : Value) (bs strm : List UInt8) (nb eo : Bool) (opn : List (List Nat)) (nodes : List Nat) (w : World) (hd : Dec E w p v bs nb eo strm) (hk : Stk E w v p opn nodes) (hlen : opn.length <= 1099511627775) :
  Calls Tryz.prog 126 #[.pointer (some ⟨E.D, 0, none⟩), .int .i64 0] w fun e w' => ∃ b, e = .returned (.pointer (some ⟨b, 0, none⟩)) /\ Pushed E w v p opn nodes bs strm nb eo b w' := by
 obtain ⟨x9, n, line, ls, off, rest, aD, _⟩ := hd.ex
 obtain ⟨⟨sb, fn, fb, l1, l2, hnodes⟩, hnd, hbes, hdep, _⟩ := hk
 have c11 := aD.cell 11
 have c12 := aD.cell 12
 have c13 := aD.cell 13
 simp [decA] at c11 c12 c13
 have hdp : 0 <= p.depth /\ p.depth <= 1099511627776 := by rw [hdep]; omega
 have hDb : ∀ x ∈ nodes, E.D ≠ x := fun x hx e => (hbes x hx).no (e ▸ Or.inl (Or.inl rfl))
 cases fn with
 | nil =>
  cases fb with
  | cons b fb => exact l2.elim
  | nil =>
   have hfr : p.free = .pointer none := l2
   rw [hfr] at c13
   refine (push_new E.D p.stk p.depth w (by obtain ⟨a, ha⟩ := l1.ptr; rw [ha]; rfl) hdp c11 l1.ptr c12 c13 (aD.fz 11) (aD.fz 12) aD.lt).mono ?_
   rintro e w' ⟨rfl, hw'⟩
   refine ⟨w.heap.size, rfl, ?_⟩
   obtain ⟨W, hW⟩ : ∃ W, W = (w.setCell ⟨E.D, 12, none⟩ (.int .i64 (p.depth + 1))).setCell ⟨E.D, 11, none⟩ (.pointer (some ⟨w.heap.size, 0, none⟩)) := ⟨_, rfl⟩
   have hWs : W.heap.size = w.heap.size := by rw [hW]; simp [World.setCell]
   have f1 : Fr (fun x => x = E.D) w W := by rw [hW]; exact ((Fr.refl (fun x => x = E.D) w).set (Or.inl rfl) _ _).set (Or.inl rfl) _ _
   rw [<- hW] at hw'
   have d1 : Dec E W { p with stk := .pointer (some ⟨w.heap.size, 0, none⟩), depth := p.depth + 1, free := p.free } v bs nb eo strm :=
    hd.pa (fun x9 n line ls off hb => by rw [hW]; exact (hb.set 12 _).set 11 _) f1
   have f2 : Fr (fun x => x = E.D \/ x ∈ nodes) w w' := by rw [hw']; exact (f1.mono (fun x hx => Or.inl (Or.inl hx))).alloc _
   have fo : Old W w' := by rw [hw']; exact (Fr.refl _ W).alloc _
   refine ⟨⟨p.free, ⟨#[]⟩, sb, [], [], d1.old fo, ?_, ?_, ?_, ?_, ?_⟩, f2⟩
   ·rw [hw', <- hWs]; exact Blk.new W _ 156
   ·exact (l1.keep f1 (fun x hx e => hDb x (by rw [hnodes]; simp [hx]) e.symm)).keep fo (fun _ _ h => h)
   ·exact hfr
   ·rw [hnodes] at hnd hbes
    simp only [List.append_nil] at hnd hbes ⊢
    exact List.nodup_cons.2 ⟨fun hx => by have := (hbes _ hx).lt; omega, hnd⟩
   ·intro x hx
    rcases List.mem_cons.1 hx with rfl | hx
    ·exact ⟨⟨by have := Blk.lt (show Blk w' w.heap.size (nodeA p.stk ⟨#[]⟩) 156 by rw [hw', <- hWs]; exact Blk.new W _ 156); exact this, by have := hd.n0; have := hd.blocks; omega, fun h => Nat.lt_irrefl _ (hd.own_lt _ h)⟩, Or.inr (Nat.le_refl _)⟩
    ·have hx' : x ∈ nodes := by rw [hnodes]; exact hx
     exact ⟨(hbes x hx').fr f2, Or.inl hx'⟩
 | cons nm0 fn =>
  cases fb with
  | nil => exact l2.elim
  | cons b fb =>
   obtain ⟨hfr, nx, hb, l3⟩ := l2
   have hbn : b ∈ nodes := by rw [hnodes]; simp
   rw [hfr] at c13
   have b0 := hb.cell 0
   have b1 := hb.cell 1
   simp [nodeA] at b0 b1
   refine (push_old E.D b p.stk p.depth nx _ w hdp c11 l1.ptr l3.ptr c12 c13 (aD.fz 11) (aD.fz 12) (aD.fz 13) (hDb b hbn) b0 b1 (hb.fz 0) (hb.fz 1)).mono ?_
   rintro e w' ⟨rfl, hw'⟩
   refine ⟨b, rfl, ?_⟩
   have hDbn := hDb b hbn
   have f2 : Fr (fun x => x = E.D \/ x = b) w w' := by
    rw [hw']
    exact (((((Fr.refl (fun x => x = E.D \/ x = b) w).set (Or.inl (Or.inl rfl)) _ _).set (Or.inl (Or.inr rfl)) _ _).set (Or.inl (Or.inr rfl)) _ _).set (Or.inl (Or.inl rfl)) _ _).set (Or.inl (Or.inl rfl)) _ _
   have f3 : Fr (fun x => x = E.D \/ x ∈ nodes) w w' := f2.mono (fun x hx => Or.inl (hx.imp id (fun (h : x = b) => h ▸ hbn)))
   have fs1 : Fr (fun x => x = b) w ((w.setCell ⟨b, 0, none⟩ p.stk).setCell ⟨b, 1, none⟩ (.int .i64 0)) := ((Fr.refl (fun x => x = b) w).set (Or.inl rfl) _ _).set (Or.inl rfl) _ _
   rw [hnodes] at hnd
   have hnd2 := List.nodup_append.1 hnd
   have hbsb : b ∉ sb := fun h => hnd2.2.2 b h b (by simp) rfl
   have hbfb : b ∉ fb := (List.nodup_cons.1 hnd2.2.1).1
   refine ⟨⟨nx, nm0, sb, fn, fb, ?_, ?_, ?_, ?_, ?_, ?_⟩, f3⟩
   ·
    have dA := hd.pa (w' := w.setCell ⟨E.D, 13, none⟩ nx) (p' := { p with free := nx }) (fun x9 n line ls off h => h.set 13 _) ((Fr.refl (fun x => x = E.D) w).set (Or.inl rfl) _ _)
    have bA : Beside E (w.setCell ⟨E.D, 13, none⟩ nx) v b := (hbes b hbn).set _ _
    have dB := dA.setB bA 0 p.stk
    have dC := dB.setB (bA.set _ _) 1 (.int .i64 0)
    have dD := dC.pa (w' := w') (p' := { p with stk := .pointer (some ⟨b, 0, none⟩), depth := p.depth + 1, free := nx }) (fun x9 n line ls off h => by rw [hw']; exact (h.set 12 _).set 11 _) (by rw [hw']; exact ((Fr.refl (fun x => x = E.D) _).set (Or.inl rfl) _ _).set (Or.inl rfl) _ _)
    exact dD
   ·rw [hw']
    have := (((hb.set_ne (p := ⟨E.D, 13, none⟩) (Ne.symm hDbn) nx).set 0 p.stk).set 1 (.int .i64 0))
    exact (this.set_ne (p := ⟨E.D, 12, none⟩) (Ne.symm hDbn) _).set_ne (p := ⟨E.D, 11, none⟩) (Ne.symm hDbn) _
   ·exact l1.keep f2 (fun x hx h => h.elim (fun e => hDb x (by rw [hnodes]; simp [hx]) e.symm) (fun e => hbsb (e ▸ hx)))
   ·exact l3.keep f2 (fun x hx h => h.elim (fun e => hDb x (by rw [hnodes]; simp [hx]) e.symm) (fun e => hbfb (e ▸ hx)))
   ·refine List.nodup_cons.2 ⟨?_, ?_⟩
    ·intro h
     rcases List.mem_append.1 h with h | h
     ·exact hbsb h
     ·exact hbfb h
    ·exact List.nodup_append.2 ⟨hnd2.1, (List.nodup_cons.1 hnd2.2.1).2, fun x hx y hy => hnd2.2.2 x hx y (by simp [hy])⟩
   ·intro x hx
    have hx' : x ∈ nodes := by
     rw [hnodes]
     rcases List.mem_cons.1 hx with rfl | hx
     ·simp
     ·rcases List.mem_append.1 hx with h | h <;> simp [h]
    exact ⟨(hbes x hx').fr f3, Or.inl hx'⟩
end
section
open Go.RowKit
theorem pushEl_do (E : Dx) (p : Pa) (v : Value) (bs strm : List UInt8) (nb0 eo : Bool) (opn : List (List Nat)) (nodes : List Nat) (nm : List Nat) (w : World) (hd : Dec E w p v bs nb0 eo strm) (hk : Stk E w v p opn nodes) (hlen : opn.length <= 1099511627775) :
  Calls Tryz.prog 70 #[.pointer (some ⟨E.D, 0, none⟩), .agg #[.string ⟨#[]⟩, .string (nameB nm)]] w fun e w' => e = .returned (.tuple #[]) /\ ∃ p' nodes', p'.need = p.need /\ p'.tcS = p.tcS /\ p'.tcL = p.tcL /\ Dec E w' p' v bs nb0 eo strm /\ Stk E w' v p' (nm :: opn) nodes' /\
   Fr (fun x => x = E.D \/ x ∈ nodes) w w' /\ ∀ x ∈ nodes', x ∈ nodes \/ w.heap.size <= x := by
 have hold : Old w (w.alloc (.cells #[.string ⟨#[]⟩, .string (nameB nm)] 105)) := (Fr.refl _ w).alloc _
 have hB := Beside.new hd (.cells #[.string ⟨#[]⟩, .string (nameB nm)] 105)
 have hX := Blk.new w #[.string ⟨#[]⟩, .string (nameB nm)] 105
 have hXn : w.heap.size ∉ nodes := fun h => Nat.lt_irrefl _ (hk.bes _ h).lt
 have hp := (push_do E p v bs strm nb0 eo opn nodes _ (hd.old hold) (hk.step (St.ofOld v hold)) hlen).mono (R' := fun e w' => ∃ b, e = .returned (.pointer (some ⟨b, 0, none⟩)) /\ w'.cell? ⟨w.heap.size, 0, none⟩ = some (.string ⟨#[]⟩) /\ w'.cell? ⟨w.heap.size, 1, none⟩ = some (.string (nameB nm)) /\
   (∃ x2, w'.cell? ⟨b, 2, none⟩ = some x2) /\ (∃ x3, w'.cell? ⟨b, 3, none⟩ = some x3) /\ w'.frozen? ⟨b, 2, none⟩ = false /\ w'.frozen? ⟨b, 3, none⟩ = false /\ Hid (Pushed E (w.alloc (.cells #[.string ⟨#[]⟩, .string (nameB nm)] 105)) v p opn nodes bs strm nb0 eo b w')) (by
  rintro e w' ⟨b, rfl, hP⟩
  obtain ⟨fr', old, sb, fn, fb, h1, h2, _⟩ := hP.ex
  have hX' := hX.keep hP.fr (fun h => h.elim (fun e => hB.no (Or.inl (Or.inl e))) hXn)
  exact ⟨b, rfl, by rw [hX'.cell]; rfl, by rw [hX'.cell]; rfl, ⟨_, h2.cell 2⟩, ⟨_, h2.cell 3⟩, h2.fz _, h2.fz _, hP⟩)
 have hmp := zz hk.mp
 have hdep := zz hk.dep
 have hnl : Hid (∀ x ∈ nodes, x < w.heap.size) := zz (fun x hx => (hk.bes x hx).lt)
 have hdl : Hid (∀ x, E.own v x -> x < w.heap.size) := zz hd.own_lt
 replace hold := zz hold
 clear hd hk hX
 go_enter Tryz.func70, Tryz.ntmps70
 go_wp2_with (go_at_call 126; refine hp.mono ?_; rintro e w2 ⟨b, rfl, x0, x1, ⟨y2, b2⟩, ⟨y3, b3⟩, q2, q3, hP⟩)
 go_end0
 obtain ⟨⟨fr', old, sb, fn, fb, d1, h2, l1, l2, hnd, hbes⟩, hfr⟩ := hP.out
 have hbB := (hbes b (by simp)).1
 have fset : Fr (fun x => x = b) w2 ((w2.setCell ⟨b, 2, none⟩ (.string ⟨#[]⟩)).setCell ⟨b, 3, none⟩ (.string (nameB nm))) := ((Fr.refl (fun x => x = b) w2).set (Or.inl rfl) _ _).set (Or.inl rfl) _ _
 have hnd' := List.nodup_cons.1 hnd
 have f0 : Fr (fun x => x = E.D \/ x ∈ nodes) w w2 := (Fr.of_old hold.out).trans hfr (fun x hx => Or.inl hx)
 refine ⟨rfl, _, b :: (sb ++ fb), ?_, ?_, ?_, (d1.setB hbB 2 _).setB (hbB.set _ _) 3 _, ⟨⟨b :: sb, fn, fb, ⟨rfl, p.stk, (h2.set 2 (.string ⟨#[]⟩)).set 3 (.string (nameB nm)), ?_⟩, ?_, rfl⟩, hnd, ?_, ?_, ?_⟩, ?_, ?_⟩
 ·rfl
 ·rfl
 ·rfl
 ·exact l1.keep fset (fun x hx e => hnd'.1 (by rw [<- e]; simp [hx]))
 ·exact l2.keep fset (fun x hx e => hnd'.1 (by rw [<- e]; simp [hx]))
 ·exact fun x hx => ((hbes x hx).1.fr fset)
 ·show p.depth + 1 = ((nm :: opn).length : Int)
  rw [hdep.out]; simp
 ·obtain ⟨m, clk, m1, m2, m3, m4⟩ := hmp.out
  have mb : m ≠ b := by
   rintro rfl
   rcases (hbes m (by simp)).2 with h | h
   ·exact m4 h
   ·have := m3.lt; have := hold.out.size; simp at h; omega
  have m5 : w2.heap[m]? = some (.map #[] clk) := f0.heap (fun h => h.elim (fun e => m3.no (Or.inl (Or.inl e))) m4) m2
  refine ⟨m, clk, m1, fset.heap mb m5, (m3.fr f0).fr fset, ?_⟩
  intro hx
  rcases (hbes m hx).2 with h | h
  ·exact m4 h
  ·have := m3.lt; simp at h; omega
 ·refine f0.trans fset ?_
  rintro x rfl
  rcases (hbes x (by simp)).2 with h | h
  ·exact Or.inl (Or.inr h)
  ·right; have := hold.out.size; omega
 ·intro x hx
  rcases (hbes x hx).2 with h | h
  ·exact Or.inl h
  ·right; have := hold.out.size; omega
end
end Go.Proofs.YtepbbahdhhjibaaGreatDoor
