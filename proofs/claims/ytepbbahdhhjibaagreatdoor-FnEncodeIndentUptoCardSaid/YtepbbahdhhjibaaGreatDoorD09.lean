/- own text -/
import Derived.Test.YtepbbahdhhjibaaGreatDoorD07
namespace Go.Proofs.YtepbbahdhhjibaaGreatDoor
set_option linter.unusedSimpArgs false
set_option linter.unusedVariables false
set_option maxHeartbeats 40000000
set_option maxRecDepth 1000000
open Go.RowKit
theorem text_m_nam (qs : List UInt8) (fl : Bool) (Q : Int) (hm : TM qs fl Q) (E : Dx) (p : Pa) (v1 : Value) (dn : List UInt8) (tl : List UInt8) (l : List El) (s : List UInt8) (r : Nat) (c0 c1 : UInt8) (u : Nat -> Value) (wr : World) (K : Act -> World -> Prop) (Q0 : Exit -> Act -> World -> Prop)
  (hlo : elsOk qs fl true c0 c1 (.nam s r :: l)) (hD : Dec E wr p v1 dn true false (srcs (.nam s r :: l) ++ tl)) (hl : dn.length + (srcs (.nam s r :: l)).length <= 1099511627000)
  (hK : ∀ (t' : Array Value) (w' : World) (v' : Value), FrT E.D (.int .i64 Q) (.bool false) (El.next c1 (.nam s r)).1 (El.next c1 (.nam s r)).2 t' -> Dec E w' p v' (dn ++ El.out c1 (.nam s r)) true false (srcs l ++ tl) -> St E wr v1 w' v' -> K ⟨t', []⟩ w') :
  body113.wp Tryz.prog (Exit.then K Q0) ⟨((List.range 381).map (gT E.D (.int .i64 Q) (.bool false) c0 c1 u)).toArray, []⟩ wr := by
 rcases hm with ⟨rfl, rfl, rfl⟩ | ⟨rfl, rfl, rfl⟩ | ⟨rfl, rfl, rfl⟩
 case' inl => cases x0 : ((c0.toNat : Int) == 93)
 case' inl.true => cases x1 : ((c1.toNat : Int) == 93)
 all_goals
  rw [gT_lit]
  replace hK := zz hK
  conv => arg 2; whnf
  obtain ⟨⟨hrf, hent⟩, hlo⟩ := hlo
  have hdn : dn.length <= 1099511627000 := by omega
  obtain ⟨hr, hch, hsne, hs4⟩ := ents_ok hent
  obtain ⟨hnm, x, xt, hsx, hx1, hx2⟩ := ents_nm hent
  obtain ⟨s0, s', rfl⟩ : ∃ s0 s', s = s0 :: s' := by cases s with | nil => exact absurd rfl hsne | cons a b => exact ⟨a, b, rfl⟩
  have hsrc : srcs (.nam (s0 :: s') r :: l) ++ tl = 38 :: s0 :: (s' ++ 59 :: (srcs l ++ tl)) := by simp [srcs_cons, El.src]
  rw [hsrc] at hD
  have hg := (getc_cons E p v1 dn true 38 (s0 :: (s' ++ 59 :: (srcs l ++ tl))) wr hD).mono (R' := fun e w' => e = .returned (.tuple #[.int .u8 38, .bool true]) /\ Hid (Dec E w' p v1 dn false false (s0 :: (s' ++ 59 :: (srcs l ++ tl))) /\ Fr E.rd wr w')) (fun _ _ h => h)
  have hlen := fun w1 hd => blen E p v1 dn (s0 :: (s' ++ 59 :: (srcs l ++ tl))) false false w1 hd (by omega)
  have hw38 : ∀ w1 n, Dec E w1 p v1 dn false false (s0 :: (s' ++ 59 :: (srcs l ++ tl))) -> Calls Tryz.prog 119 #[.pointer (some ⟨E.D, 7, none⟩), .int .u8 38] (w1.drewN n) fun e w' => e = .returned .nilIface /\ ∃ v', Dec E w' p v' (dn ++ [38]) false false (s0 :: (s' ++ 59 :: (srcs l ++ tl))) /\ St E w1 v1 w' v' := fun w1 n hd =>
   (wbyte E p v1 dn _ false false 38 _ (hd.drewN n) (by omega)).mono (by rintro e w' ⟨h0, v', h1, h2⟩; exact ⟨h0, v', h1, (St.drewN (St.refl E w1 v1) n).trans h2⟩)
  have hm1 : ∀ w3 v3, Dec E w3 p v3 (dn ++ [38]) false false (s0 :: (s' ++ 59 :: (srcs l ++ tl))) -> Calls Tryz.prog 114 #[.pointer (some ⟨E.D, 0, none⟩)] w3 fun e w' => e = .returned (.tuple #[.int .u8 s0.toNat, .bool true]) /\ Hid (Dec E w' p v3 (dn ++ [38]) false false (s' ++ 59 :: (srcs l ++ tl)) /\ Fr E.rd w3 w') := fun w3 v3 hd => mustgetc_cons E p v3 _ false s0 _ w3 hd
  have hun : ∀ w4 v3, Dec E w4 p v3 (dn ++ [38]) false false (s' ++ 59 :: (srcs l ++ tl)) -> Calls Tryz.prog 112 #[.pointer (some ⟨E.D, 0, none⟩), .int .u8 s0.toNat] w4 fun e w' => e = .returned (.tuple #[]) /\ Hid (Dec E w' p v3 (dn ++ [38]) true false (s0 :: (s' ++ 59 :: (srcs l ++ tl))) /\ Fr E.rd w4 w') := fun w4 v3 hd => ungetc_do' E p v3 _ s0 _ w4 hd
  obtain ⟨L1, hL1⟩ : ∃ L1, L1 = dn.length + 1 := ⟨_, rfl⟩
  have hrn : ∀ w5 v3, Dec E w5 p v3 (dn ++ [38]) true false (s0 :: (s' ++ 59 :: (srcs l ++ tl))) -> Calls Tryz.prog 153 #[.pointer (some ⟨E.D, 0, none⟩)] w5 fun e w' => e = .returned (.bool true) /\ ∃ N g cap v', v' = .slice (some ⟨g, 0, none⟩) N cap /\ N = dn.length + 1 + (s0 :: s').length /\ N <= cap /\ L1 <= N /\ (L1 : Int) <= N /\ ¬ (cap = L1) /\ Dec E w' p v' ((dn ++ [38]) ++ (s0 :: s')) true false (59 :: (srcs l ++ tl)) /\ St E w5 v3 w' v' := fun w5 v3 hd =>
   (readName_do E p v3 (dn ++ [38]) (s0 :: s') 59 (srcs l ++ tl) w5 hnm (by simp) (by decide) (by simpa using hd) (by simp at hs4 ⊢; omega)).mono (by
    rintro e w' ⟨h0, v', h1, h2⟩
    obtain ⟨g, cap, rfl, hc, hL⟩ := h1.rowOf (.inr (by simp))
    exact ⟨h0, _, g, cap, _, rfl, by simp; omega, hc, by simp; omega, by simp; omega, by simp at hc; omega, h1, h2⟩)
  have hm2 : ∀ w6 v6, Dec E w6 p v6 ((dn ++ [38]) ++ (s0 :: s')) true false (59 :: (srcs l ++ tl)) -> Calls Tryz.prog 114 #[.pointer (some ⟨E.D, 0, none⟩)] w6 fun e w' => e = .returned (.tuple #[.int .u8 59, .bool true]) /\ Hid (Dec E w' p v6 ((dn ++ [38]) ++ (s0 :: s')) false false (srcs l ++ tl) /\ Fr E.rd w6 w') := fun w6 v6 hd => mustgetc_cons E p v6 _ true 59 _ w6 hd
  have hby : ∀ w7 v6, Dec E w7 p v6 ((dn ++ [38]) ++ (s0 :: s')) false false (srcs l ++ tl) -> Calls Tryz.prog 120 #[.pointer (some ⟨E.D, 7, none⟩)] w7 fun e w' => e = .returned v6 /\ ∃ n, w' = w7.drewN n := fun w7 v6 hd => bbytes E p v6 _ _ _ _ w7 hd
  obtain ⟨L, hL⟩ : ∃ L, L = dn.length := ⟨_, rfl⟩
  have hwL : IntKind.i64.wrap ((L : Int) + 1) = (L1 : Int) := by rw [IntWalk.i64_in _ (by omega)]; omega
  rw [<- hL] at hlen
  have hBS : ((dn ++ [38]) ++ (s0 :: s')).length = dn.length + 1 + (s0 :: s').length := by simp; omega
  have hw59 : ∀ w7 n g N cap, N = dn.length + 1 + (s0 :: s').length -> N <= cap -> Dec E w7 p (.slice (some ⟨g, 0, none⟩) N cap) ((dn ++ [38]) ++ (s0 :: s')) false false (srcs l ++ tl) -> Calls Tryz.prog 119 #[.pointer (some ⟨E.D, 7, none⟩), .int .u8 59] (w7.drewN n) fun e w' => e = .returned .nilIface /\
    ∃ v', Dec E w' p v' (((dn ++ [38]) ++ (s0 :: s')) ++ [59]) false false (srcs l ++ tl) /\ St E w7 (.slice (some ⟨g, 0, none⟩) N cap) w' v' /\ Lies w' g L1 (s0 :: s') := fun w7 n g N cap hN hc hd =>
   (wbyteL E p _ _ _ false false 59 _ (hd.drewN n) (by rw [hBS]; omega)).mono (by
    rintro e w' ⟨h0, v', h1, h2, h3⟩
    refine ⟨h0, v', h1, (St.drewN (St.refl E w7 _) n).trans h2, ?_⟩
    obtain ⟨g', cap', hv, _, hL⟩ := hd.rowOf (.inr (by simp))
    simp only [Value.slice.injEq, Option.some.injEq, Addr.mk.injEq] at hv
    obtain ⟨⟨rfl, _⟩, _, rfl⟩ := hv
    intro j c hj
    have hj' := (List.getElem?_eq_some_iff.1 hj).1
    rw [h3 g rfl (L1 + j) (by rw [hBS]; omega)]
    have := hL (L1 + j) c (by rw [List.getElem?_append_right (by simp; omega)]; simp only [List.length_append, List.length_singleton]; rw [show L1 + j - (dn.length + 1) = j by omega]; exact hj)
    rwa [Nat.zero_add] at this)
  have hisn : ∀ w9 v9 g N cap, N = dn.length + 1 + (s0 :: s').length -> N <= cap -> Dec E w9 p v9 (((dn ++ [38]) ++ (s0 :: s')) ++ [59]) false false (srcs l ++ tl) -> Lies w9 g L1 (s0 :: s') -> Calls Tryz.prog 141 #[.slice (some ⟨g, L1, none⟩) (N - L1) (cap - L1)] w9 fun e w' => e = .returned (.bool true) /\
    (convert 56 9 (.slice (some ⟨g, L1, none⟩) (N - L1) (cap - L1))).run Tryz.prog w' = .ok (.string ⟨(s0 :: s').toArray⟩) w' /\ Hid (Old w9 w') := fun w9 v9 g N cap hN hc hd hL =>
   (isName_do x xt g L1 (N - L1) (cap - L1) w9 hx1 hx2 hd.ut (hsx ▸ hL) (by rw [<- hsx]; omega) (by omega) (by omega)).mono (by
    rintro e w' ⟨h0, h1⟩
    exact ⟨h0, (hL.old h1).str (by omega), h1⟩)
  have hen : ∀ w, Calls Tryz.prog 154 #[.string ⟨(s0 :: s').toArray⟩] w fun e w' => e = .returned (.tuple #[.int .i32 r, .bool true]) /\ w' = w := fun w => entity_do _ r hent w
  have htr : ∀ w v9, Dec E w p v9 (((dn ++ [38]) ++ (s0 :: s')) ++ [59]) false false (srcs l ++ tl) -> Calls Tryz.prog 123 #[.pointer (some ⟨E.D, 7, none⟩), .int .i64 L] w fun e w' => e = .returned (.tuple #[]) /\ ∃ v', Dec E w' p v' dn false false (srcs l ++ tl) /\ St E w v9 w' v' := fun w v9 hd =>
   (btrunc E p v9 _ _ false false L w hd (by simp; omega) (by simp at hs4 ⊢; omega)).mono (by
    rintro e w' ⟨h0, v', h1, h2⟩
    refine ⟨h0, v', ?_, h2⟩
    have e : List.take L (((dn ++ [38]) ++ (s0 :: s')) ++ [59]) = dn := by rw [hL]; simp
    rw [e] at h1
    exact h1)
  have hws : ∀ w v12, Dec E w p v12 dn false false (srcs l ++ tl) -> Calls Tryz.prog 155 #[.pointer (some ⟨E.D, 7, none⟩), .string (Utf8.encode r)] w fun e w' => e = .returned (.tuple #[.int .i64 (Utf8.encode r).size, .nilIface]) /\ ∃ v', Dec E w' p v' (dn ++ u8 r) false false (srcs l ++ tl) /\ St E w v12 w' v' := fun w v12 hd =>
   (wstring E p v12 dn _ false false (Utf8.encode r) w hd (by omega) (encode_size r (isCh_ok hch)).1 (encode_size r (isCh_ok hch)).2).mono (by
    rintro e w' ⟨h0, v', h1, h2⟩
    rw [encode_u8 r (isCh_ok hch)] at h1
    exact ⟨h0, v', h1, h2⟩)
  replace hL := zz hL
  replace hL1 := zz hL1
  replace hw59 := zz hw59
  replace hisn := zz hisn
  replace hen := zz hen
  replace htr := zz htr
  replace hws := zz hws
  clear hBS
  replace hm2 := zz hm2
  replace hby := zz hby
  have h35 : ((s0.toNat : Int) == 35) = false := by
   simp only [ents, List.mem_cons, Prod.mk.injEq, List.cons.injEq, List.not_mem_nil, or_false] at hent
   rcases hent with ⟨⟨rfl, _⟩, _⟩ | ⟨⟨rfl, _⟩, _⟩ | ⟨⟨rfl, _⟩, _⟩ | ⟨⟨rfl, _⟩, _⟩ | ⟨⟨rfl, _⟩, _⟩ <;> decide
  replace hlen := zz hlen
  replace hw38 := zz hw38
  replace hm1 := zz hm1
  replace hun := zz hun
  replace hrn := zz hrn
  replace hent := zz hent
  replace hnm := zz hnm
  replace hx2 := zz hx2
  replace hsx := zz hsx
  clear hD hlo hsrc hsne hrf
  go_wp2_with (first | (go_at_call 111; refine hg.mono ?_; rintro e w1 ⟨rfl, k1⟩) | (go_at_call 124; refine (hlen.out w1 k1.out.1).mono ?_; rintro e w2 ⟨rfl, n2, rfl⟩) | (go_at_call 119; refine (hw38.out w1 n2 k1.out.1).mono ?_; rintro e w3 ⟨rfl, k3⟩; obtain ⟨v3, d3, s3⟩ := k3; replace d3 := zz d3; replace s3 := zz s3; clear hw38) |
    (go_at_call 114; refine (hm1.out w3 v3 d3.out).mono ?_; rintro e w4 ⟨rfl, k4⟩; clear hm1) | (go_at_call 112; refine (hun.out w4 v3 k4.out.1).mono ?_; rintro e w5 ⟨rfl, k5⟩) | (go_at_call 153; refine (hrn.out w5 v3 k5.out.1).mono ?_; rintro e w6 ⟨rfl, k6⟩; obtain ⟨N, g, cap, v6, hv6, hN1, hN2, hN3, hN4, hN5, d6, s6⟩ := k6; subst hv6; replace d6 := zz d6; replace s6 := zz s6; replace hN1 := zz hN1) |
    (go_at_call 114; refine (hm2.out w6 _ d6.out).mono ?_; rintro e w7 ⟨rfl, k7⟩) | (go_at_call 120; refine (hby.out w7 _ k7.out.1).mono ?_; rintro e w8 ⟨rfl, n8, rfl⟩; clear hlen) |
    (go_at_call 119; refine (hw59.out w7 n8 g N cap hN1.out hN2 k7.out.1).mono ?_; rintro e w9 ⟨rfl, k9⟩; obtain ⟨v9, d9, s9, l9⟩ := k9; replace d9 := zz d9; replace s9 := zz s9; replace l9 := zz l9) | (go_at_call 141; refine (hisn.out w9 v9 g N cap hN1.out hN2 d9.out l9.out).mono ?_; rintro e w10 ⟨rfl, hcv, k10⟩) | (go_at_call 154; refine (hen.out w10).mono ?_; rintro e w11 ⟨rfl, rfl⟩) |
    (go_at_call 123; refine (htr.out _ v9 (d9.out.old k10.out)).mono ?_; rintro e w12 ⟨rfl, k12⟩; obtain ⟨v12, d12, s12⟩ := k12; replace d12 := zz d12; replace s12 := zz s12) | (go_at_call 155; refine (hws.out _ v12 d12.out).mono ?_; rintro e w13 ⟨rfl, k13⟩; obtain ⟨v13, d13, s13⟩ := k13; replace d13 := zz d13; replace s13 := zz s13))
  exact hK.out _ _ v13 ⟨rfl, rfl, rfl, rfl, rfl, rfl, rfl, rfl⟩ d13.out.up ((((((((((St.rd v1 k1.out.2).trans s3.out).andRd k4.out.2).andRd k5.out.2).trans s6.out).andRd k7.out.2).trans s9.out).trans ⟨Fr.of_old k10.out, Nw.refl _ _⟩).trans s12.out).trans s13.out)
end Go.Proofs.YtepbbahdhhjibaaGreatDoor
