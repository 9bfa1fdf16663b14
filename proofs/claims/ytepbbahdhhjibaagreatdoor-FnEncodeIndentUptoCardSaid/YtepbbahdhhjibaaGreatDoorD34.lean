/- own text -/
import Derived.Deep.CutRange
import Derived.Test.YtepbbahdhhjibaaGreatDoorD33
namespace Go.Proofs.YtepbbahdhhjibaaGreatDoor
set_option linter.unusedSimpArgs false
set_option linter.unusedVariables false
set_option maxHeartbeats 8000000
set_option maxRecDepth 100000
section
open Go.RowKit
theorem esc_split (r : Nat) : (∃ ds, esc true r = 38 :: (ds ++ [59]) /\ (ds, r) ∈ escRefs) \/ (esc true r = u8 r /\ r ≠ 34 /\ r ≠ 38 /\ r ≠ 60 /\ r ≠ 9 /\ r ≠ 10 /\ r ≠ 13) := by
 unfold esc
 by_cases h1 : r = 34
 ·subst h1; exact .inl ⟨[35, 51, 52], rfl, by decide⟩
 rw [if_neg h1]
 by_cases h2 : r = 39
 ·subst h2; exact .inl ⟨[35, 51, 57], rfl, by decide⟩
 rw [if_neg h2]
 by_cases h3 : r = 38
 ·subst h3; exact .inl ⟨[97, 109, 112], rfl, by decide⟩
 rw [if_neg h3]
 by_cases h4 : r = 60
 ·subst h4; exact .inl ⟨[108, 116], rfl, by decide⟩
 rw [if_neg h4]
 by_cases h5 : r = 62
 ·subst h5; exact .inl ⟨[103, 116], rfl, by decide⟩
 rw [if_neg h5]
 by_cases h6 : r = 9
 ·subst h6; exact .inl ⟨[35, 120, 57], rfl, by decide⟩
 rw [if_neg h6]
 by_cases h7 : r = 10
 ·subst h7; exact .inl ⟨[35, 120, 65], rfl, by decide⟩
 rw [if_neg h7]
 by_cases h8 : r = 13
 ·subst h8; exact .inl ⟨[35, 120, 68], rfl, by decide⟩
 rw [if_neg h8]
 exact .inr ⟨rfl, h1, h3, h4, h6, h7, h8⟩
theorem u8_head {r : Nat} (h : isCh r = true) : ∃ c t, u8 r = c :: t /\ ∀ n : Nat, n < 128 -> r ≠ n -> c ≠ UInt8.ofNat n := by
 have hl := (u8_len r).1
 cases hu : u8 r with
 | nil => rw [hu] at hl; simp at hl
 | cons c t =>
  refine ⟨c, t, rfl, fun n hn hne e => ?_⟩
  by_cases h128 : r < 128
  ·rw [u8_ascii h128] at hu
   injection hu with h1 _
   rw [<- h1] at e
   have := congrArg UInt8.toNat e
   rw [ofNat_toNat (by omega), ofNat_toNat (by omega)] at this
   exact hne this
  ·have := u8_bytes (isCh_ok h) (by omega) c (by rw [hu]; simp)
   rw [e, ofNat_toNat (by omega)] at this
   omega
theorem esc_head {r : Nat} (h : isCh r = true) : ∃ c t, esc true r = c :: t /\ c ≠ 34 /\ c ≠ 60 /\ (isWs c = false \/ c = 32) := by
 rcases esc_split r with ⟨ds, e, _⟩ | ⟨e, h1, h2, h3, h4, h5, h6⟩
 ·exact ⟨38, ds ++ [59], e, by decide, by decide, .inl (by decide)⟩
 ·obtain ⟨c, t, hu, hc⟩ := u8_head h
  refine ⟨c, t, by rw [e, hu], hc 34 (by omega) h1, hc 60 (by omega) h3, ?_⟩
  by_cases h32 : c = 32
  ·exact .inr h32
  ·left
   have e13 : c ≠ 13 := hc 13 (by omega) h6
   have e10 : c ≠ 10 := hc 10 (by omega) h5
   have e9 : c ≠ 9 := hc 9 (by omega) h4
   simp [isWs, h32, e13, e10, e9]
theorem nameB_snoc (rs : List Nat) (r : Nat) : nameB rs ++ (⟨(u8 r).toArray⟩ : ByteArray) = nameB (rs ++ [r]) := by
 apply bytes_eq
 simp [nameB, nb]
theorem data_yes (P : Nat) (s : ByteArray) (a : Nat) (q : PV) (vd : Int) (w : World) (h : PB w P s a q vd) (hz : s.size <= 549755813888) (ha : a <= s.size) (r : Nat) (hr : isCh r = true) (rest : List UInt8) (hL : s.data.toList.drop a = esc true r ++ rest) :
  Calls Tryz.prog 128 #[.pointer (some ⟨P, 0, none⟩)] w fun e w' => e = .returned (.tuple #[.string ⟨(u8 r).toArray⟩, .bool true]) /\ Hid (PB w' P s (a + (esc true r).length) q vd /\ FrP P w w') := by
 have hsz := at_le hL ha
 rcases esc_split r with ⟨ds, he, hds⟩ | ⟨he, _, h38, _⟩
 ·rw [he] at hL hsz
  have hL1 : s.data.toList.drop a = [38] ++ (ds ++ 59 :: rest) := by rw [hL]; simp
  have hlen : a + (esc true r).length = a + 1 + ds.length + 1 := by rw [he]; simp; omega
  rw [hlen]
  have h76 := (has_yes h [38] _ hL1 hz ha (by decide)).mono (R' := fun e w' => e = .returned (.bool true) /\ Hid (PB w' P s (a + 1) q vd /\ FrP P w w')) (fun _ _ h => h)
  have hdr : s.data.toList.drop (a + 1) = ds ++ 59 :: rest := at_go (l := [38]) hL1
  have h163 : ∀ w1, (PB w1 P s (a + 1) q vd /\ FrP P w w1) -> Calls Tryz.prog 163 #[.pointer (some ⟨P, 0, none⟩)] w1 fun e w' => e = .returned (.tuple #[.string ⟨(u8 r).toArray⟩, .bool true]) /\ Hid (PB w' P s (a + 1 + ds.length + 1) q vd /\ FrP P w w') := fun w1 hw => by
   refine (reference_yes P s (a + 1) q vd w1 hw.1 hz (by simp at hsz; omega) ds r hds rest hdr).mono ?_
   rintro e w' ⟨rfl, k⟩
   exact ⟨rfl, k.out.1, frp_tr hw.2 k.out.2⟩
  have hch : ∀ (w1 : World), (PB w1 P s (a + 1 + ds.length + 1) q vd /\ FrP P w w1) -> Calls Tryz.prog 23 #[.string ⟨(u8 r).toArray⟩] w1 fun e w' => e = .returned (.bool true) /\ Hid (PB w' P s (a + 1 + ds.length + 1) q vd /\ FrP P w w') := fun w1 hw => by
   refine (chars_do _ w1).mono ?_
   rintro e w' ⟨b, rfl, h7, _, h8⟩
   obtain rfl : b = true := h8 r hr rfl
   exact ⟨rfl, Blk.drw hw.1 h7, frp_tr hw.2 (frp_of h7)⟩
  replace h163 := zz h163
  replace hch := zz hch
  generalize (⟨(u8 r).toArray⟩ : ByteArray) = X at *
  clear h hL hL1 hdr hsz hlen he hds
  go_enter Tryz.func128, Tryz.ntmps128
  go_wp2_with (first
   | (go_at_call 76; refine h76.mono ?_; rintro e w1 ⟨rfl, k1⟩)
   | (go_at_call 163; refine (h163.out _ k1.out).mono ?_; rintro e w2 ⟨rfl, k2⟩; clear k1)
   | (go_at_call 23; refine (hch.out _ k2.out).mono ?_; rintro e w3 ⟨rfl, k3⟩))
  go_ret2
  exact ⟨rfl, k3.out⟩
 ·rw [he] at hL hsz ⊢
  obtain ⟨c, t, hu, hc⟩ := u8_head hr
  have hc38 : c ≠ 38 := hc 38 (by omega) h38
  have hc' : (s.data.toList.drop a).take [(38 : UInt8)].length ≠ [38] := by rw [hL, hu]; simpa using hc38
  have h76 := (has_no h [38] hc' hz ha (by decide)).mono (R' := fun e w' => e = .returned (.bool false) /\ Hid (PB w' P s a q vd /\ FrP P w w') /\ (w'.cell? ⟨P, 0, none⟩ = some (.string s) /\ w'.cell? ⟨P, 1, none⟩ = some (.int .i64 a) /\ ∀ i, w'.frozen? ⟨P, i, none⟩ = false)) (fun e w' k => ⟨k.1, ⟨Blk.drw h k.2, frp_of k.2⟩, (PB.c (Blk.drw h k.2)).1, (PB.c (Blk.drw h k.2)).2.1, (Blk.drw h k.2).fz⟩)
  obtain ⟨r', n, hrn, hdc, hn4, hns, _⟩ := decode_at (s.extract a s.size)
  rw [ext_end, hL, decS_u8 r (isCh_ok hr)] at hrn
  obtain ⟨e1, e2⟩ := Prod.mk.inj hrn
  subst e1
  rw [ext_size] at hns
  have hlr := u8_len r
  have hd : ∀ (w1 : World) (m : Nat), Calls Tryz.prog 45 #[.string (s.extract a s.size)] (w1.drewN m) fun e w' => e = .returned (.tuple #[.int .i64 (r : Nat), .int .i64 (n : Nat)]) /\ ∃ m', w' = w1.drewN m' := fun w1 => quietly (fun m => hdc (w1.drewN m))
  have i1 : (a : Int) <= (s.size : Int) := by omega
  have i2 : IntKind.i64.wrap ((a : Int) + (n : Int)) = ((a + n : Nat) : Int) := by rw [IntWalk.i64_in _ (by omega)]; omega
  obtain ⟨B, hB⟩ : ∃ B, B = a + n := ⟨_, rfl⟩
  rw [<- hB] at i2
  have i3 : IntKind.i64.wrap ((B : Int) - (n : Int)) = (a : Int) := by rw [IntWalk.i64_in _ (by omega)]; omega
  have i4 : (a : Int) <= (B : Int) := by omega
  have i5 : (B : Int) <= (s.size : Int) := by omega
  have i6 : (0 : Int) <= (a : Int) := by omega
  have e0 : ((n : Int) == 0) = false := by rw [beq_eq_false_iff_ne]; omega
  have hchr : ∀ (w1 : World), (PB w1 P s a q vd /\ FrP P w w1) -> Calls Tryz.prog 46 #[.int .i64 (r : Nat)] w1 fun e w' => e = .returned (.bool true) /\ Hid (PB w' P s a q vd /\ FrP P w w') /\ (w'.cell? ⟨P, 0, none⟩ = some (.string s) /\ w'.cell? ⟨P, 1, none⟩ = some (.int .i64 a) /\ ∀ i, w'.frozen? ⟨P, i, none⟩ = false) := fun w1 hw => by
   refine (spChar_do (r : Int) w1).mono ?_
   rintro e w' ⟨rfl, k⟩
   rw [chI_nat, hr]
   have := Blk.drw hw.1 k
   exact ⟨rfl, ⟨this, frp_tr hw.2 (frp_of k)⟩, (PB.c this).1, (PB.c this).2.1, this.fz⟩
  have hwk : ∀ (w1 : World) (m : Nat), (PB w1 P s a q vd /\ FrP P w w1) -> (PB (w1.drewN m) P s a q vd /\ FrP P w (w1.drewN m)) := fun w1 m hw => ⟨hw.1.drewN m, frp_tr hw.2 (frp_of ⟨m, rfl⟩)⟩
  have hset : ∀ (w1 : World) (m : Nat), (PB w1 P s a q vd /\ FrP P w w1) -> (PB ((w1.setCell ⟨P, 1, none⟩ (.int .i64 B)).drewN m) P s (a + (u8 r).length) q vd /\ FrP P w ((w1.setCell ⟨P, 1, none⟩ (.int .i64 B)).drewN m)) := fun w1 m hw => by
   rw [e2, <- hB]
   exact ⟨(hw.1.set1 B).drewN m, frp_tr (frp_st hw.2 _ _) (frp_of ⟨m, rfl⟩)⟩
  have hex : s.extract a B = ⟨(u8 r).toArray⟩ := by
   apply bytes_eq
   rw [ext_sub, hB, <- e2, List.take_add, List.drop_append_of_le_length (by simp; omega), List.drop_take_self, List.nil_append, hL, List.take_left]
  replace hd := zz hd
  replace hchr := zz hchr
  replace hwk := zz hwk
  replace hset := zz hset
  replace hex := zz hex
  replace hB := zz hB
  clear h hdc hc' hn4 hns hL hsz hu hc hc38 hrn hlr e2 he h38 hr
  go_enter Tryz.func128, Tryz.ntmps128
  go_wp2_with (go_at_call 76; refine h76.mono ?_; rintro e w1 ⟨rfl, k1, c0, c1, cf⟩)
  go_quiet (first | (go_at_call 45; exact hd.out _ _))
  go_wp2_with (go_at_call 46; refine (hchr.out _ (hwk.out _ _ k1.out)).mono ?_; rintro e w3 ⟨rfl, k3, d0, d1, df⟩)
  go_quiet (fail)
  go_wp2
  go_ret2
  rw [hex.out]
  exact ⟨rfl, hset.out _ _ k3.out⟩
theorem attribute_yes (P : Nat) (s : ByteArray) (w : World) (a : Nat) (q : PV) (vd : Int) (h : PB w P s a q vd) (hz : s.size <= 549755813888) (haz : a <= s.size) (n : List Nat) (hn : NameOk n) (rs : List Nat) (hrs : ∀ r ∈ rs, isCh r = true) (rest : List UInt8) (hL : s.data.toList.drop a = nb n ++ ([61] ++ ([34] ++ (escL true rs ++ ([34] ++ rest))))) :
  Calls Tryz.prog 136 #[.pointer (some ⟨P, 0, none⟩)] w fun e w' => e = .returned (.tuple #[.agg #[.string ⟨#[]⟩, .string (nameB n), .string (nameB rs)], .bool true]) /\ Hid (SP P s q vd w (a + (nb n).length + 1 + 1 + (escL true rs).length + 1) w') := by
 obtain ⟨R, hR⟩ : ∃ R, R = w.heap.size := ⟨_, rfl⟩
 have hPw := h.lt
 obtain ⟨W0, hW0⟩ : ∃ W0, W0 = w.alloc (.cells #[.string ⟨#[]⟩, .string ⟨#[]⟩, .string ⟨#[]⟩] 30) := ⟨_, rfl⟩
 have hO0 : Old w W0 := by rw [hW0]; exact (Fr.refl _ w).alloc _
 have hb0 : Blk W0 R #[.string ⟨#[]⟩, .string ⟨#[]⟩, .string ⟨#[]⟩] 30 := by rw [hW0, hR]; exact Blk.new w _ _
 have hRP : ¬ R = P := by omega
 have hst : SP P s q vd W0 a W0 := SP.start (h.keep hO0 (fun h => h))
 have hrc : ∀ w1, FrP P W0 w1 -> w1.cell? ⟨R, 0, none⟩ = some (.string ⟨#[]⟩) /\ w1.cell? ⟨R, 1, none⟩ = some (.string ⟨#[]⟩) /\ w1.cell? ⟨R, 2, none⟩ = some (.string ⟨#[]⟩) /\ ∀ i, w1.frozen? ⟨R, i, none⟩ = false := fun w1 f => by
  have hb := hb0.keep f hRP
  exact ⟨by rw [hb.cell]; rfl, by rw [hb.cell]; rfl, by rw [hb.cell]; rfl, hb.fz⟩
 have hre : ∀ (w1 : World), FrP P W0 w1 -> ∀ v0 v1 v2 : Value, (((w1.setCell ⟨R, 0, none⟩ v0).setCell ⟨R, 1, none⟩ v1).setCell ⟨R, 2, none⟩ v2).cell? ⟨R, 0, none⟩ = some v0 /\ (((w1.setCell ⟨R, 0, none⟩ v0).setCell ⟨R, 1, none⟩ v1).setCell ⟨R, 2, none⟩ v2).cell? ⟨R, 1, none⟩ = some v1 /\ (((w1.setCell ⟨R, 0, none⟩ v0).setCell ⟨R, 1, none⟩ v1).setCell ⟨R, 2, none⟩ v2).cell? ⟨R, 2, none⟩ = some v2 := fun w1 f v0 v1 v2 => by
  have hb := (((hb0.keep f hRP).set 0 v0).set 1 v1).set 2 v2
  exact ⟨by rw [hb.cell]; rfl, by rw [hb.cell]; rfl, by rw [hb.cell]; rfl⟩
 have hfr : ∀ (w1 : World) (v0 v1 v2 : Value), FrP P W0 w1 -> FrP P w (((w1.setCell ⟨R, 0, none⟩ v0).setCell ⟨R, 1, none⟩ v1).setCell ⟨R, 2, none⟩ v2) := fun w1 v0 v1 v2 f => by
  have f0 : FrP P w w1 := (Fr.of_old hO0).trans f (fun _ h => .inl h)
  exact ((f0.set (Or.inr (by rw [hR]; exact Nat.le_refl _)) _ _).set (Or.inr (by rw [hR]; exact Nat.le_refl _)) _ _).set (Or.inr (by rw [hR]; exact Nat.le_refl _)) _ _
 have hpb : ∀ (w1 : World) (v0 v1 v2 : Value) (b : Nat) (vd' : Int), PB w1 P s b q vd' -> PB (((w1.setCell ⟨R, 0, none⟩ v0).setCell ⟨R, 1, none⟩ v1).setCell ⟨R, 2, none⟩ v2) P s b q vd' := fun w1 v0 v1 v2 b vd' hb =>
  hb.keep ((((Fr.refl (fun x => x = R) w1).set (Or.inl rfl) _ _).set (Or.inl rfl) _ _).set (Or.inl rfl) _ _) (fun e => hRP e.symm)
 have hSP : ∀ (w1 : World) (v0 v1 v2 : Value) (b : Nat), SP P s q vd W0 b w1 -> SP P s q vd w b (((w1.setCell ⟨R, 0, none⟩ v0).setCell ⟨R, 1, none⟩ v1).setCell ⟨R, 2, none⟩ v2) := fun w1 v0 v1 v2 b k => ⟨hpb _ _ _ _ _ _ k.1, hfr _ _ _ _ k.2⟩
 have hs0 := at_le hL haz
 simp only [List.length_append, List.length_cons, List.length_nil] at hs0
 have hg1 := at_go hL
 obtain ⟨a1, ha1⟩ : ∃ a1, a1 = a + (nb n).length := ⟨_, rfl⟩
 rw [<- ha1] at hg1 ⊢
 have hg2 := at_go hg1
 have hg3 := at_go hg2
 simp only [List.length_cons, List.length_nil] at hg2 hg3
 obtain ⟨D, hD⟩ : ∃ D, D = a1 + 1 + 1 := ⟨_, rfl⟩
 rw [<- hD] at hg3 ⊢
 have z1 : a1 <= s.size := by omega
 have z2 : a1 + 1 <= s.size := by omega
 have z3 : D <= s.size := by omega
 have hnm := name_yes P s a q vd W0 hst.1 hz haz n hn _ hL (fun c t e => by injection e with e _; rw [<- e]; decide)
 rw [<- ha1] at hnm
 have hb1 : ∀ w1, SP P s q vd W0 a1 w1 -> Calls Tryz.prog 131 #[.pointer (some ⟨P, 0, none⟩)] w1 fun e w' => e = .returned (.bool false) /\ Hid (SP P s q vd W0 a1 w') := fun w1 k => k.blanksY hz z1 [] _ hg1 (fun c hc => by cases hc) (fun c t e => by injection e with e _; rw [<- e]; decide)
 have he1 : ∀ w1, SP P s q vd W0 a1 w1 -> Calls Tryz.prog 76 #[.pointer (some ⟨P, 0, none⟩), .string ⟨#[61]⟩] w1 fun e w' => e = .returned (.bool true) /\ Hid (SP P s q vd W0 (a1 + 1) w') := fun w1 k => (k.hasY hz z1 [61] _ hg1 (by decide)).mono (fun e w' x => ⟨x.1, x.2.2⟩)
 have hb2 : ∀ w1, SP P s q vd W0 (a1 + 1) w1 -> Calls Tryz.prog 131 #[.pointer (some ⟨P, 0, none⟩)] w1 fun e w' => e = .returned (.bool false) /\ Hid (SP P s q vd W0 (a1 + 1) w') := fun w1 k => k.blanksY hz z2 [] _ hg2 (fun c hc => by cases hc) (fun c t e => by injection e with e _; rw [<- e]; decide)
 have he2 : ∀ w1, SP P s q vd W0 (a1 + 1) w1 -> Calls Tryz.prog 76 #[.pointer (some ⟨P, 0, none⟩), .string ⟨#[34]⟩] w1 fun e w' => e = .returned (.bool true) /\ Hid (SP P s q vd W0 D w') := fun w1 k => by rw [hD]; exact (k.hasY hz z2 [34] _ hg2 (by decide)).mono (fun e w' x => ⟨x.1, x.2.2⟩)
 replace hrc := zz hrc
 replace hre := zz hre
 replace hSP := zz hSP
 replace hnm := zz hnm
 replace hb1 := zz hb1
 replace he1 := zz he1
 replace hb2 := zz hb2
 replace he2 := zz he2
 replace hrs := zz hrs
 obtain ⟨N, hN⟩ : ∃ N, N = nameB n := ⟨_, rfl⟩
 rw [<- hN] at hnm ⊢
 replace hN := zz hN
 replace hD := zz hD
 replace ha1 := zz ha1
 clear h hfr hpb hb0 hO0 hRP hst hL hg1 hg2 z1 z2 hn
 go_enter Tryz.func136, Tryz.ntmps136
 go_upto_region 1 with (fail)
 rw [<- hW0, <- hR]
 replace hW0 := zz hW0
 replace hR := zz hR
 go_wp2_with (first
  | (go_at_call 130; refine hnm.out.mono ?_; rintro e w1 ⟨rfl, k1⟩)
  | (go_at_call 76; refine (he2.out _ k4.out).mono ?_; rintro e w5 ⟨rfl, k5⟩; clear k4)
  | (go_at_call 131; refine (hb2.out _ k3.out).mono ?_; rintro e w4 ⟨rfl, k4⟩; clear k3)
  | (go_at_call 76; refine (he1.out _ k2.out).mono ?_; rintro e w3 ⟨rfl, k3⟩; clear k2)
  | (go_at_call 131; refine (hb1.out _ k1.out).mono ?_; rintro e w2 ⟨rfl, k2⟩; clear k1))
 go_loopg [8] rs.length (fun k x8 wr => ∃ dn td, x8 = .string (nameB dn) /\ rs = dn ++ td /\ td.length = k /\ SP P s q vd W0 (D + (escL true dn).length) wr)
 case atStart => exact ⟨[], rs, rfl, rfl, rfl, k5.out⟩
 case round =>
  obtain ⟨dn, td, rfl, hds, hk, hB⟩ := hrel
  have hL2 : s.data.toList.drop D = escL true dn ++ (escL true td ++ ([34] ++ rest)) := by rw [hg3, hds, escL_join]; simp
  have hsz := at_le hL2 z3
  have hgo := at_go hL2
  obtain ⟨A, hA⟩ : ∃ A, A = D + (escL true dn).length := ⟨_, rfl⟩
  rw [<- hA] at hB hsz hgo
  have hAs : A <= s.size := by omega
  obtain ⟨X, hX⟩ : ∃ X, X = nameB dn := ⟨_, rfl⟩
  rw [<- hX]
  have hXz : X.size <= 549755813888 := by
   have e1 := nb_le_esc true dn
   have e2 : X.size = (nb dn).length := by rw [hX, Lib.size_eq]; rfl
   omega
  have hadd : ∀ (x : ByteArray) (w1 : World), x.size <= 4 -> (Op.stringOp .add X x).run Tryz.prog w1 = .ok (.string (X ++ x)) w1 := fun x w1 hx => run_string_add_sum w1 _ _ (by omega)
  replace hadd := zz hadd
  clear hXz k5
  cases td with
  | nil =>
   have hgo' : s.data.toList.drop A = [34] ++ rest := by simpa [escL] using hgo
   have hh := (hB.hasY hz hAs [34] rest hgo' (by decide)).mono (R' := fun e w' => e = .returned (.bool true) /\ (w'.cell? ⟨R, 0, none⟩ = some (.string ⟨#[]⟩) /\ w'.cell? ⟨R, 1, none⟩ = some (.string ⟨#[]⟩) /\ w'.cell? ⟨R, 2, none⟩ = some (.string ⟨#[]⟩) /\ ∀ i, w'.frozen? ⟨R, i, none⟩ = false) /\ Hid (SP P s q vd W0 (A + 1) w')) (fun e w' x => ⟨x.1, hrc.out _ x.2.2.out.2, x.2.2⟩)
   have hfin : X = nameB rs /\ A + 1 = D + (escL true rs).length + 1 := by rw [List.append_nil] at hds; rw [hX, hA, hds]; exact ⟨rfl, rfl⟩
   replace hh := zz hh
   replace hfin := zz hfin
   clear hX hA hds hsz hgo hgo' hL2 hk hB hadd
   go_wp2_with (go_at_call 76; refine hh.out.mono ?_; rintro e w7 ⟨rfl, ⟨r0, r1, r2, rf⟩, k7⟩)
   have re := hre.out _ k7.out.2
   refine bodyPost_ret (by rw [results_cell_tmp rfl]; go_simp; try rfl) rfl ?_
   rw [<- hfin.out.1, <- hfin.out.2]
   exact ⟨rfl, hSP.out _ _ _ _ _ k7.out⟩
  | cons r td =>
   have hcr := hrs.out r (by rw [hds]; simp)
   obtain ⟨c, t, hc0, hc34, hc60, hcw⟩ := esc_head hcr
   have eL : escL true (r :: td) = esc true r ++ escL true td := rfl
   rw [eL, List.append_assoc] at hgo
   have hgo2 : s.data.toList.drop A = c :: (t ++ (escL true td ++ ([34] ++ rest))) := by rw [hgo, hc0]; rfl
   obtain ⟨h1, h2, _⟩ := at_byte hgo2
   have hh1 := hB.hasN hz hAs [34] (by rw [hgo2]; simpa using hc34) (by decide)
   have he := fun (w1 : World) (k : SP P s q vd W0 A w1) => quietly (fun n => (k.drewN n).endN h1)
   have i1 : (A : Int) < (s.size : Int) := by omega
   have hws : ∀ w1, SP P s q vd W0 A w1 -> Calls Tryz.prog 28 #[.int .u8 c.toNat] w1 fun e w' => e = .returned (.bool (isWs c)) /\ Hid (SP P s q vd W0 A w') := fun w1 k => (spSpace_do c w1).mono (fun e w' x => ⟨x.1, k.drw x.2⟩)
   have hd : ∀ (w1 : World), SP P s q vd W0 A w1 -> Calls Tryz.prog 128 #[.pointer (some ⟨P, 0, none⟩)] w1 fun e w' => e = .returned (.tuple #[.string ⟨(u8 r).toArray⟩, .bool true]) /\ (w'.cell? ⟨R, 0, none⟩ = some (.string ⟨#[]⟩) /\ w'.cell? ⟨R, 1, none⟩ = some (.string ⟨#[]⟩) /\ w'.cell? ⟨R, 2, none⟩ = some (.string ⟨#[]⟩) /\ ∀ i, w'.frozen? ⟨R, i, none⟩ = false) /\ Hid (SP P s q vd W0 (A + (esc true r).length) w') := fun w1 k => by
    refine (data_yes P s A q vd w1 k.1 hz hAs r hcr _ hgo).mono ?_
    rintro e w' ⟨rfl, x⟩
    have k2 : SP P s q vd W0 (A + (esc true r).length) w' := ⟨x.out.1, frp_tr k.2 x.out.2⟩
    exact ⟨rfl, hrc.out _ k2.2, k2⟩
   have hadd2 := fun w1 => hadd.out ⟨(u8 r).toArray⟩ w1 (by rw [Lib.size_eq]; exact (u8_len r).2)
   have hnext : X ++ ⟨(u8 r).toArray⟩ = nameB (dn ++ [r]) /\ rs = (dn ++ [r]) ++ td /\ A + (esc true r).length = D + (escL true (dn ++ [r])).length := by
    refine ⟨by rw [hX, nameB_snoc], by rw [hds]; simp, ?_⟩
    rw [escL_join, List.length_append, hA]
    have : escL true [r] = esc true r := by simp [escL]
    rw [this]; omega
   have hk' : td.length + 1 = gk := by simpa using hk
   generalize (⟨(u8 r).toArray⟩ : ByteArray) = Y at *
   obtain ⟨m, hm⟩ : ∃ m, m = c.toNat := ⟨_, rfl⟩
   rw [<- hm] at h2 hws
   have e60 : ((m : Int) == 60) = false := by
    rw [beq_eq_false_iff_ne]; intro e
    apply hc60
    exact UInt8.toNat_inj.1 (by rw [<- hm]; show m = 60; omega)
   have hcs : m = 32 \/ ((((m : Int) != 32) = true /\ ((m : Int) == 32) = false /\ ¬ m = 32) /\ isWs c = false) := by
    by_cases h32 : c = 32
    ·exact .inl (by rw [hm, h32]; rfl)
    ·have e0 : ¬ m = 32 := fun e => h32 (UInt8.toNat_inj.1 (by rw [<- hm]; exact e))
     exact .inr ⟨⟨by rw [bne_iff_ne]; omega, by rw [beq_eq_false_iff_ne]; omega, e0⟩, hcw.resolve_right h32⟩
   replace he := zz he
   replace hh1 := zz hh1
   replace hd := zz hd
   replace hnext := zz hnext
   replace hm := zz hm
   replace hk' := zz hk'
   clear hX hL2 hsz hgo hgo2 hk hB hadd hA h1 hc0 eL hcr hds hc34 hc60 hcw
   rcases hcs with rfl | ⟨⟨e32, e33, e34⟩, hc32⟩
   ·replace hws := zz hws
    go_wp2_with (go_at_call 76; refine hh1.out.mono ?_; rintro e w7 ⟨rfl, ⟨c0, c1, cf⟩, k7⟩)
    go_quiet (first | (go_at_call 42; exact he.out _ k7.out _))
    go_wp2
    go_quiet (fail)
    go_wp2_with (go_at_call 128; refine (hd.out _ (k7.out.drewN _)).mono ?_; rintro e w9 ⟨rfl, ⟨r0, r1, r2, rf⟩, k9⟩)
    go_roundg td.length
    case measure => have := hk'.out; omega
    case rel =>
     obtain ⟨n1, n2, n3⟩ := hnext.out
     exact ⟨dn ++ [r], td, by rw [n1], n2, rfl, by rw [<- n3]; exact k9.out⟩
   ·rw [hc32] at hws
    replace hws := zz hws
    go_wp2_with (go_at_call 76; refine hh1.out.mono ?_; rintro e w7 ⟨rfl, ⟨c0, c1, cf⟩, k7⟩)
    go_quiet (first | (go_at_call 42; exact he.out _ k7.out _))
    go_wp2
    go_quiet (fail)
    go_wp2_with (first
     | (go_at_call 28; refine (hws.out _ (k7.out.drewN _)).mono ?_; rintro e w8 ⟨rfl, k8⟩)
     | (go_at_call 128; refine (hd.out _ k8.out).mono ?_; rintro e w9 ⟨rfl, ⟨r0, r1, r2, rf⟩, k9⟩))
    go_roundg td.length
    case measure => have := hk'.out; omega
    case rel =>
     obtain ⟨n1, n2, n3⟩ := hnext.out
     exact ⟨dn ++ [r], td, by rw [n1], n2, rfl, by rw [<- n3]; exact k9.out⟩
end
section
open Go.RowKit
structure GT where
 kind : Int
 sp : ByteArray
 loc : ByteArray
 ats : List (ByteArray × ByteArray × ByteArray)
 txt : ByteArray
 pos : Int
def atsC (l : List (ByteArray × ByteArray × ByteArray)) : List Value := l.flatMap fun x => [.string x.1, .string x.2.1, .string x.2.2]
structure AttrG (w : World) (A : Nat -> Prop) (av : Value) (ats : List (ByteArray × ByteArray × ByteArray)) : Prop where
 row : w.ownsRow 0 30 3 av ats.length (atsC ats)
 own : ∀ k, av.ownBlock = some k -> A k
 len : ats.length <= 549755813888
def gtCells (g : GT) (av : Value) : List Value := [.int .i64 g.kind, .string g.sp, .string g.loc, av, .string g.txt, .int .i64 g.pos]
def TokG (w : World) (A : Nat -> Prop) : List GT -> List Value -> Prop
 | [], cs => cs = []
 | g :: gs, cs => ∃ av rest, cs = gtCells g av ++ rest /\ AttrG w A av g.ats /\ TokG w A gs rest
def prC (l : List (ByteArray × ByteArray)) : List Value := l.flatMap fun x => [.string x.1, .string x.2]
structure PairG (w : World) (A : Nat -> Prop) (bv : Value) (l : List (ByteArray × ByteArray)) : Prop where
 row : w.ownsRow 0 275 2 bv l.length (prC l)
 own : ∀ k, bv.ownBlock = some k -> A k
 len : l.length <= 549755813888
def BndG (w : World) (A : Nat -> Prop) : List (List (ByteArray × ByteArray)) -> List Value -> Prop
 | [], cs => cs = []
 | l :: ls, cs => ∃ bv rest, cs = bv :: rest /\ PairG w A bv l /\ BndG w A ls rest
theorem AttrG.keep {F : Nat -> Prop} {w w' : World} {A B : Nat -> Prop} {av : Value} {l : List (ByteArray × ByteArray × ByteArray)} (h : AttrG w A av l) (f : Fr F w w') (hA : ∀ k, k < w.heap.size -> A k -> ¬ F k /\ B k) : AttrG w' B av l :=
 ⟨ownsRow_frame h.row f (fun k hk => (hA k (ownsRow_lt h.row hk) (h.own k hk)).1), fun k hk => (hA k (ownsRow_lt h.row hk) (h.own k hk)).2, h.len⟩
theorem PairG.keep {F : Nat -> Prop} {w w' : World} {A B : Nat -> Prop} {av : Value} {l : List (ByteArray × ByteArray)} (h : PairG w A av l) (f : Fr F w w') (hA : ∀ k, k < w.heap.size -> A k -> ¬ F k /\ B k) : PairG w' B av l :=
 ⟨ownsRow_frame h.row f (fun k hk => (hA k (ownsRow_lt h.row hk) (h.own k hk)).1), fun k hk => (hA k (ownsRow_lt h.row hk) (h.own k hk)).2, h.len⟩
theorem TokG.keep {F : Nat -> Prop} {w w' : World} {A B : Nat -> Prop} (f : Fr F w w') (hA : ∀ k, k < w.heap.size -> A k -> ¬ F k /\ B k) : ∀ {gs : List GT} {cs : List Value}, TokG w A gs cs -> TokG w' B gs cs := by
 intro gs
 induction gs with
 | nil => intro cs h; exact h
 | cons g gs ih =>
  rintro cs ⟨av, rest, h1, h2, h3⟩
  exact ⟨av, rest, h1, h2.keep f hA, ih h3⟩
theorem BndG.keep {F : Nat -> Prop} {w w' : World} {A B : Nat -> Prop} (f : Fr F w w') (hA : ∀ k, k < w.heap.size -> A k -> ¬ F k /\ B k) : ∀ {gs : List (List (ByteArray × ByteArray))} {cs : List Value}, BndG w A gs cs -> BndG w' B gs cs := by
 intro gs
 induction gs with
 | nil => intro cs h; exact h
 | cons g gs ih =>
  rintro cs ⟨av, rest, h1, h2, h3⟩
  exact ⟨av, rest, h1, h2.keep f hA, ih h3⟩
theorem TokG.app {w : World} {A : Nat -> Prop} {g : GT} {av : Value} (ha : AttrG w A av g.ats) : ∀ {gs : List GT} {cs : List Value}, TokG w A gs cs -> TokG w A (gs ++ [g]) (cs ++ gtCells g av) := by
 intro gs
 induction gs with
 | nil =>
  intro cs h
  have h' : cs = [] := h
  subst h'
  exact ⟨av, [], by simp, ha, rfl⟩
 | cons t gs ih =>
  rintro cs ⟨av', rest, h1, h2, h3⟩
  exact ⟨av', rest ++ gtCells g av, by rw [h1, List.append_assoc], h2, ih h3⟩
theorem BndG.app {w : World} {A : Nat -> Prop} {l : List (ByteArray × ByteArray)} {bv : Value} (ha : PairG w A bv l) : ∀ {gs : List (List (ByteArray × ByteArray))} {cs : List Value}, BndG w A gs cs -> BndG w A (gs ++ [l]) (cs ++ [bv]) := by
 intro gs
 induction gs with
 | nil =>
  intro cs h
  have h' : cs = [] := h
  subst h'
  exact ⟨bv, [], by simp, ha, rfl⟩
 | cons t gs ih =>
  rintro cs ⟨av', rest, h1, h2, h3⟩
  exact ⟨av', rest ++ [bv], by rw [h1]; rfl, h2, ih h3⟩
theorem TokG.len {w : World} {A : Nat -> Prop} : ∀ {gs : List GT} {cs : List Value}, TokG w A gs cs -> cs.length = gs.length * 6 := by
 intro gs
 induction gs with
 | nil => intro cs h; have h' : cs = [] := h; subst h'; rfl
 | cons g gs ih =>
  rintro cs ⟨av, rest, rfl, h2, h3⟩
  rw [List.length_append, ih h3, List.length_cons]
  simp [gtCells]; omega
theorem BndG.len {w : World} {A : Nat -> Prop} : ∀ {gs : List (List (ByteArray × ByteArray))} {cs : List Value}, BndG w A gs cs -> cs.length = gs.length := by
 intro gs
 induction gs with
 | nil => intro cs h; have h' : cs = [] := h; subst h'; rfl
 | cons g gs ih =>
  rintro cs ⟨av, rest, rfl, h2, h3⟩
  rw [List.length_cons, ih h3, List.length_cons]
def SO (P : Nat) (q : PV) (x : Nat) : Prop := x = P \/ q.ov.ownBlock = some x \/ q.pv.ownBlock = some x \/ q.bv.ownBlock = some x
def SA (P : Nat) (q : PV) (x : Nat) : Prop := ¬ SO P q x
structure SQ (P : Nat) (s : ByteArray) (base : Nat) (w : World) (a : Nat) (q : PV) (vd : Int) (gs : List GT) (opn : List ByteArray) (bnd : List (List (ByteArray × ByteArray))) : Prop where
 blk : PB w P s a q vd
 out : ∃ cs, w.ownsRow 0 28 6 q.ov gs.length cs /\ TokG w (SA P q) gs cs
 opn : w.ownsRow 0 9 1 q.pv opn.length (opn.map .string)
 bnd : ∃ bs, w.ownsRow 0 84 1 q.bv bnd.length bs /\ BndG w (SA P q) bnd bs
 do_ : ∀ k, q.ov.ownBlock = some k -> k ≠ P /\ q.pv.ownBlock ≠ some k /\ q.bv.ownBlock ≠ some k
 dp : ∀ k, q.pv.ownBlock = some k -> k ≠ P /\ q.bv.ownBlock ≠ some k
 db : ∀ k, q.bv.ownBlock = some k -> k ≠ P
 lo : ∀ x, SO P q x -> base <= x
section
variable {P : Nat} {s : ByteArray} {base : Nat} {w w' : World} {a a' : Nat} {q : PV} {vd vd' : Int} {gs : List GT} {opn : List ByteArray} {bnd : List (List (ByteArray × ByteArray))}
theorem SQ.lt (h : SQ P s base w a q vd gs opn bnd) : ∀ x, SO P q x -> x < w.heap.size := by
 obtain ⟨cs, h1, _⟩ := h.out
 obtain ⟨bs, h2, _⟩ := h.bnd
 rintro x (rfl | hx | hx | hx)
 ·exact h.blk.lt
 ·exact ownsRow_lt h1 hx
 ·exact ownsRow_lt h.opn hx
 ·exact ownsRow_lt h2 hx
theorem SQ.move (h : SQ P s base w a q vd gs opn bnd) (f : FrP P w w') (b : PB w' P s a' q vd') : SQ P s base w' a' q vd' gs opn bnd := by
 obtain ⟨cs, h1, h2⟩ := h.out
 obtain ⟨bs, h3, h4⟩ := h.bnd
 have hA : ∀ k, k < w.heap.size -> SA P q k -> ¬ k = P /\ SA P q k := fun k _ hk => ⟨fun e => hk (.inl e), hk⟩
 exact ⟨b, ⟨cs, ownsRow_frame h1 f (fun k hk => (h.do_ k hk).1), h2.keep f hA⟩, ownsRow_frame h.opn f (fun k hk => (h.dp k hk).1), ⟨bs, ownsRow_frame h3 f (fun k hk => h.db k hk), h4.keep f hA⟩, h.do_, h.dp, h.db, h.lo⟩
theorem SQ.sp (h : SQ P s base w a q vd gs opn bnd) {w1 : World} (k : SP P s q vd' w a' w1) : SQ P s base w1 a' q vd' gs opn bnd := h.move k.2 k.1
theorem SQ.old (h : SQ P s base w a q vd gs opn bnd) (f : Old w w') : SQ P s base w' a q vd gs opn bnd := h.move (Fr.of_old f) (h.blk.keep f (fun h => h))
end
theorem AttrG.nil (w : World) (A : Nat -> Prop) : AttrG w A (.slice none 0 0) [] := ⟨World.ownsRow_nil _ _ _ _, fun k hk => (by cases hk), Nat.zero_le _⟩
theorem info28 : (Tryz.prog.info? 28).map (fun i => (i.zero, i.size, i.bytes)) = some (some (.agg #[.int .i64 0, .string ⟨#[]⟩, .string ⟨#[]⟩, .slice none 0 0, .string ⟨#[]⟩, .int .i64 0]), 6, 88) := by kernel_rfl
structure GoP (P : Nat) (q : PV) (w : World) (q' : PV) (w' : World) : Prop where
 fr : Fr (SO P q) w w'
 nw : ∀ x, SO P q' x -> SO P q x \/ w.heap.size <= x
theorem GoP.of {P : Nat} {q : PV} {w w' : World} (f : FrP P w w') : GoP P q w q w' := ⟨f.mono (fun x hx => .inl (.inl hx)), fun _ h => .inl h⟩
theorem GoP.tr {P : Nat} {q q1 q2 : PV} {w w1 w2 : World} (h : GoP P q w q1 w1) (k : GoP P q1 w1 q2 w2) : GoP P q w q2 w2 :=
 ⟨h.fr.trans k.fr (fun x hx => h.nw x hx), fun x hx => (k.nw x hx).elim (fun h1 => h.nw x h1) (fun h1 => .inr (Nat.le_trans h.fr.size h1))⟩
theorem add_do (P : Nat) (s : ByteArray) (base : Nat) (w : World) (a : Nat) (q : PV) (vd : Int) (gs : List GT) (opn : List ByteArray) (bnd : List (List (ByteArray × ByteArray))) (h : SQ P s base w a q vd gs opn bnd) (hn : gs.length <= 549755813888) (hbase : base <= w.heap.size)
  (kind : Int) (sp loc : ByteArray) (av : Value) (ats : List (ByteArray × ByteArray × ByteArray)) (txt : ByteArray) (hav : AttrG w (SA P q) av ats) (p0 : Int) :
  Calls Tryz.prog 129 #[.pointer (some ⟨P, 0, none⟩), .agg #[.int .i64 kind, .string sp, .string loc, av, .string txt, .int .i64 p0]] w fun e w' => e = .returned (.bool true) /\ ∃ q', SQ P s base w' a q' vd (gs ++ [⟨kind, sp, loc, ats, txt, a⟩]) opn bnd /\ GoP P q w q' w' /\ q'.pv = q.pv /\ q'.bv = q.bv := by
 obtain ⟨i0, hi, hz0, hz1, hz2⟩ := info_parts info28
 obtain ⟨pa, na, ca, rfl⟩ : ∃ pa na ca, av = .slice pa na ca := by
  rcases hav.row.2 with ⟨h1, _⟩ | ⟨g, cap, cur, h1, _⟩ <;> exact ⟨_, _, _, h1⟩
 obtain ⟨cs, hrow, hTG⟩ := h.out
 have hPw := h.blk.lt
 obtain ⟨c0, c1, _, _, _, c5, _⟩ := h.blk.c
 obtain ⟨ov, hov⟩ : ∃ ov, ov = q.ov := ⟨_, rfl⟩
 rw [<- hov] at c5 hrow
 have hovP : ∀ k, ov.ownBlock = some k -> k ≠ P := fun k hk => (h.do_ k (by rw [<- hov]; exact hk)).1
 obtain ⟨W0, hW0⟩ : ∃ W0, W0 = w.alloc (.cells #[.int .i64 kind, .string sp, .string loc, .slice pa na ca, .string txt, .int .i64 a] 28) := ⟨_, rfl⟩
 replace h := zz h
 replace hov := zz hov
 replace hrow := zz hrow
 replace hTG := zz hTG
 replace hav := zz hav
 go_enter Tryz.func129, Tryz.ntmps129
 go_wp2
 rw [<- hW0]
 have hO0 : Old w W0 := by rw [hW0]; exact (Fr.refl _ w).alloc _
 have hb0 : Blk W0 w.heap.size #[.int .i64 kind, .string sp, .string loc, .slice pa na ca, .string txt, .int .i64 a] 28 := by rw [hW0]; exact Blk.new w _ _
 have hs0 : w.heap.size < W0.heap.size := hb0.lt
 have hB0 : Hid (PB W0 P s a q vd) := h.out.blk.keep hO0 (fun h => h)
 have hrow0 : Hid (W0.ownsRow 0 28 6 ov gs.length cs) := ownsRow_frame hrow.out hO0 (fun _ _ h => h)
 replace c5 := hO0.cell c5
 have f5 := hB0.out.fz 5
 have z0 : W0.cell? ⟨w.heap.size, 0, none⟩ = some (.int .i64 kind) := by rw [hb0.cell]; rfl
 have z1 : W0.cell? ⟨w.heap.size, 1, none⟩ = some (.string sp) := by rw [hb0.cell]; rfl
 have z2 : W0.cell? ⟨w.heap.size, 2, none⟩ = some (.string loc) := by rw [hb0.cell]; rfl
 have z3 : W0.cell? ⟨w.heap.size, 3, none⟩ = some (.slice pa na ca) := by rw [hb0.cell]; rfl
 have z4 : W0.cell? ⟨w.heap.size, 4, none⟩ = some (.string txt) := by rw [hb0.cell]; rfl
 have z5 : W0.cell? ⟨w.heap.size, 5, none⟩ = some (.int .i64 a) := by rw [hb0.cell]; rfl
 have hPow : ¬ (ov.ownBlock = some P) := fun e => hovP P e rfl
 have c5a : ∀ cs, (W0.alloc (.cells cs 28)).cell? ⟨P, 5, none⟩ = some ov := fun cs => (show Old W0 _ from (Fr.refl _ W0).alloc _).cell c5
 have c5b : ∀ cs, (W0.drew.alloc (.cells cs 28)).cell? ⟨P, 5, none⟩ = some ov := fun cs => (show Old W0 _ from (Fr.refl _ W0).drew.alloc _).cell c5
 have c5c : ∀ cs, (W0.alloc (.cells cs 28)).drew.cell? ⟨P, 5, none⟩ = some ov := fun cs => (show Old W0 _ from ((Fr.refl _ W0).alloc _).drew).cell c5
 replace hO0 := zz hO0
 replace hb0 := zz hb0
 replace hW0 := zz hW0
 replace hovP := zz hovP
 clear c0 c1
 go_cut [] from 10 to 19 (fun wx => ∃ ov', PB wx P s a ⟨ov', q.pv, q.bv⟩ vd /\ Fr (fun x => x = P \/ ov.ownBlock = some x) W0 wx /\ wx.ownsRow 0 28 6 ov' (gs.length + 1) (cs ++ [.int .i64 kind, .string sp, .string loc, .slice pa na ca, .string txt, .int .i64 a]) /\ ∀ k, ov'.ownBlock = some k -> ov.ownBlock = some k \/ W0.heap.size <= k)
 case first =>
  go_region_law (first | (refine step_append (by rfl) _ _ _ (by rfl) 28 i0 _ 6 88 Tryz.underlying22 hi hz0 hz1 hz2 rfl (by decide) ov gs.length _ (by rfl) (ownsRow_frame (F := fun _ => False) hrow0.out (((Fr.refl _ W0).alloc _).drew) (fun _ _ h => h)) ⟨W0.heap.size, 0, none⟩ 1 1 [.int .i64 kind, .string sp, .string loc, .slice pa na ca, .string txt, .int .i64 a] (by rfl) (by rfl) (by decide) (news_alloc W0 [.int .i64 kind, .string sp, .string loc, .slice pa na ca, .string txt, .int .i64 a] 28) (by intro u hu; simp at hu; rcases hu with rfl | rfl | rfl | rfl | rfl | rfl <;> rfl) (by unfold maxLen; omega) (by omega) ?_; intro g' c' w1 hrow' hgrow hnb; have f1 : Fr (fun x => ov.ownBlock = some x) W0 w1 := ((Fr.refl (fun x => ov.ownBlock = some x) W0).alloc _).drew.grown hgrow (fun k hk => Or.inl hk); have b1 := Blk.keep (hB0.out) f1 hPow; have k5 : w1.cell? ⟨P, 5, none⟩ = some ov := (by rw [b1.cell, hov.out]; rfl); have kf := b1.fz 5; replace hrow' := zz hrow'; replace hnb := zz hnb; replace f1 := zz f1; replace b1 := zz b1; clear hgrow))
  all_goals go_wp2_with fail
  all_goals go_meet
  all_goals refine ⟨_, b1.out.set 5 _, ?_, ownsRow_setCell hrow'.out (fun e => ?_) _, fun k hk => ?_⟩
  all_goals first
   | exact (f1.out.mono (G := fun x => x = P \/ ov.ownBlock = some x) (fun x hx => Or.inl (Or.inr hx))).set (Or.inl (Or.inl rfl)) _ _
   | (have hg' : g' = P := by simpa [Value.ownBlock] using e
      rcases hnb.out with h | h
      ·exact hPow (by rw [h, hg'])
      ·simp at h; omega)
   | (have hk2 : k = g' := by simpa [Value.ownBlock, eq_comm] using hk
      subst hk2
      exact hnb.out.imp id (fun h => by simp at h; omega))
 case rest =>
  obtain ⟨ov', bP, fP, rP, nP⟩ := hcut
  have hq := h.out
  have ho := hO0.out
  have hwW := ho.size
  have f2 : Fr (fun x => x = P \/ ov.ownBlock = some x) w wc := (Fr.of_old ho).trans fP (fun x hx => .inl hx)
  have hovq := hov.out
  have hlt := hq.lt
  have hnP : ∀ k, ov'.ownBlock = some k -> q.ov.ownBlock = some k \/ w.heap.size <= k := fun k hk => (nP k hk).imp (fun h => by rw [<- hovq]; exact h) (fun h => by omega)
  have hdv : ∀ k, ov'.ownBlock = some k -> k ≠ P /\ q.pv.ownBlock ≠ some k /\ q.bv.ownBlock ≠ some k := fun k hk => by
   rcases hnP k hk with h1 | h1
   ·exact hq.do_ k h1
   ·exact ⟨by omega, fun e => by have := hlt k (.inr (.inr (.inl e))); omega, fun e => by have := hlt k (.inr (.inr (.inr e))); omega⟩
  have hnw : ∀ x, SO P ⟨ov', q.pv, q.bv⟩ x -> SO P q x \/ w.heap.size <= x := by
   rintro x (hx | hx | hx | hx)
   ·exact .inl (.inl hx)
   ·exact (hnP x hx).imp (fun h => .inr (.inl h)) id
   ·exact .inl (.inr (.inr (.inl hx)))
   ·exact .inl (.inr (.inr (.inr hx)))
  have hA : ∀ k, k < w.heap.size -> SA P q k -> ¬ (k = P \/ ov.ownBlock = some k) /\ SA P ⟨ov', q.pv, q.bv⟩ k := fun k hk hs => ⟨fun e => hs (e.elim .inl (fun e => .inr (.inl (by rw [<- hovq]; exact e)))), fun e => (hnw k e).elim hs (fun h => by omega)⟩
  have hsq : SQ P s base wc a ⟨ov', q.pv, q.bv⟩ vd (gs ++ [⟨kind, sp, loc, ats, txt, a⟩]) opn bnd := by
   obtain ⟨bs, b3, b4⟩ := hq.bnd
   refine ⟨bP, ⟨_, ?_, TokG.app (g := ⟨kind, sp, loc, ats, txt, a⟩) (hav.out.keep f2 hA) (hTG.out.keep f2 hA)⟩, ownsRow_frame hq.opn f2 (fun k hk e => e.elim (hq.dp k hk).1 (fun e => (hq.do_ k (by rw [<- hovq]; exact e)).2.1 hk)), ⟨bs, ownsRow_frame b3 f2 (fun k hk e => e.elim (hq.db k hk) (fun e => (hq.do_ k (by rw [<- hovq]; exact e)).2.2 hk)), b4.keep f2 hA⟩, hdv, hq.dp, hq.db, ?_⟩
   ·have e1 : (gs ++ [(⟨kind, sp, loc, ats, txt, a⟩ : GT)]).length = gs.length + 1 := by simp
    rw [e1]; exact rP
   ·intro x hx
    rcases hnw x hx with h1 | h1
    ·exact hq.lo x h1
    ·omega
  have hgo : GoP P q w ⟨ov', q.pv, q.bv⟩ wc := ⟨f2.mono (fun x hx => .inl (hx.elim .inl (fun e => .inr (.inl (by rw [<- hovq]; exact e))))), hnw⟩
  replace hsq := zz hsq
  replace hgo := zz hgo
  clear bP fP rP nP hnP hdv hnw hA f2 hq ho hlt
  go_wp2
  go_ret
  exact ⟨rfl, _, hsq.out, hgo.out, rfl, rfl⟩
end
end Go.Proofs.YtepbbahdhhjibaaGreatDoor
