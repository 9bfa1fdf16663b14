/- own text -/
import Derived.Test.YtepbbahdhhjibaaGreatDoorD07
namespace Go.Proofs.YtepbbahdhhjibaaGreatDoor
set_option linter.unusedSimpArgs false
set_option linter.unusedVariables false
set_option maxHeartbeats 40000000
set_option maxRecDepth 1000000
open Go.RowKit
theorem text_m_dec (qs : List UInt8) (fl : Bool) (Q : Int) (hm : TM qs fl Q) (E : Dx) (p : Pa) (v1 : Value) (dn : List UInt8) (tl : List UInt8) (l : List El) (ds : List UInt8) (c0 c1 : UInt8) (u : Nat -> Value) (wr : World) (K : Act -> World -> Prop) (Q0 : Exit -> Act -> World -> Prop)
  (hlo : elsOk qs fl true c0 c1 (.num false ds :: l)) (hD : Dec E wr p v1 dn true false (srcs (.num false ds :: l) ++ tl)) (hl : dn.length + (srcs (.num false ds :: l)).length <= 1099511627000)
  (hK : ∀ (t' : Array Value) (w' : World) (v' : Value), FrT E.D (.int .i64 Q) (.bool false) (El.next c1 (.num false ds)).1 (El.next c1 (.num false ds)).2 t' -> Dec E w' p v' (dn ++ El.out c1 (.num false ds)) true false (srcs l ++ tl) -> St E wr v1 w' v' -> K ⟨t', []⟩ w') :
  body113.wp Tryz.prog (Exit.then K Q0) ⟨((List.range 381).map (gT E.D (.int .i64 Q) (.bool false) c0 c1 u)).toArray, []⟩ wr := by
 rcases hm with ⟨rfl, rfl, rfl⟩ | ⟨rfl, rfl, rfl⟩ | ⟨rfl, rfl, rfl⟩
 case' inl => cases x0 : ((c0.toNat : Int) == 93)
 case' inl.true => cases x1 : ((c1.toNat : Int) == 93)
 all_goals
  rw [gT_lit]
  replace hK := zz hK
  conv => arg 2; whnf
  obtain ⟨⟨hrf, hne, hdg, hch⟩, hlo⟩ := hlo
  have hdn : dn.length <= 1099511627000 := by omega
  have hdl : dn.length + ds.length <= 1099511627000 := by
   simp [srcs_cons, El.src] at hl; omega
  obtain ⟨d0, ds', hds⟩ : ∃ d0 ds', ds = d0 :: ds' := by cases ds with | nil => exact absurd rfl hne | cons a b => exact ⟨a, b, rfl⟩
  have hsrc : srcs (.num false ds :: l) ++ tl = 38 :: 35 :: d0 :: (ds' ++ 59 :: (srcs l ++ tl)) := by rw [hds]; simp [srcs_cons, El.src]
  rw [hsrc] at hD
  have hg := (getc_cons E p v1 dn true 38 (35 :: d0 :: (ds' ++ 59 :: (srcs l ++ tl))) wr hD).mono (R' := fun e w' => e = .returned (.tuple #[.int .u8 38, .bool true]) /\ Hid (Dec E w' p v1 dn false false (35 :: d0 :: (ds' ++ 59 :: (srcs l ++ tl))) /\ Fr E.rd wr w')) (fun _ _ h => h)
  obtain ⟨L, hL⟩ : ∃ L, L = dn.length := ⟨_, rfl⟩
  have hlen := fun w1 hd => blen E p v1 dn (35 :: d0 :: (ds' ++ 59 :: (srcs l ++ tl))) false false w1 hd (by omega)
  rw [<- hL] at hlen
  replace hlen := zz hlen
  have hw38 : ∀ w v n, Dec E w p v dn false false (35 :: d0 :: (ds' ++ 59 :: (srcs l ++ tl))) -> Calls Tryz.prog 119 #[.pointer (some ⟨E.D, 7, none⟩), .int .u8 38] (w.drewN n) fun e w' => e = .returned .nilIface /\ ∃ v', Hid (Dec E w' p v' (dn ++ [38]) false false (35 :: d0 :: (ds' ++ 59 :: (srcs l ++ tl)))) /\ Hid (St E w v w' v') := fun w v n hd =>
   (wbyte E p v dn _ false false 38 _ (hd.drewN n) (by first | omega | (simp; omega))).mono (by rintro e w' ⟨h0, v', h1, h2⟩; exact ⟨h0, v', h1, (St.drewN (St.refl E w v) n).trans h2⟩)
  replace hw38 := zz hw38
  have hm1 : ∀ w v, Dec E w p v (dn ++ [38]) false false (35 :: d0 :: (ds' ++ 59 :: (srcs l ++ tl))) -> Calls Tryz.prog 114 #[.pointer (some ⟨E.D, 0, none⟩)] w fun e w' => e = .returned (.tuple #[.int .u8 35, .bool true]) /\ Hid (Dec E w' p v (dn ++ [38]) false false (d0 :: (ds' ++ 59 :: (srcs l ++ tl))) /\ Fr E.rd w w') := fun w v hd => mustgetc_cons E p v _ false 35 _ w hd
  replace hm1 := zz hm1
  have hw35 : ∀ w v, Dec E w p v (dn ++ [38]) false false (d0 :: (ds' ++ 59 :: (srcs l ++ tl))) -> Calls Tryz.prog 119 #[.pointer (some ⟨E.D, 7, none⟩), .int .u8 35] w fun e w' => e = .returned .nilIface /\ ∃ v', Hid (Dec E w' p v' ((dn ++ [38]) ++ [35]) false false (d0 :: (ds' ++ 59 :: (srcs l ++ tl)))) /\ Hid (St E w v w' v') := fun w v hd =>
   (wbyte E p v (dn ++ [38]) _ false false 35 _ hd (by first | omega | (simp; omega))).mono (by rintro e w' ⟨h0, v', h1, h2⟩; exact ⟨h0, v', h1, h2⟩)
  replace hw35 := zz hw35
  have hm3 : ∀ w v, Dec E w p v ((dn ++ [38]) ++ [35]) false false (d0 :: (ds' ++ 59 :: (srcs l ++ tl))) -> Calls Tryz.prog 114 #[.pointer (some ⟨E.D, 0, none⟩)] w fun e w' => e = .returned (.tuple #[.int .u8 d0.toNat, .bool true]) /\ Hid (Dec E w' p v ((dn ++ [38]) ++ [35]) false false ((ds' ++ 59 :: (srcs l ++ tl))) /\ Fr E.rd w w') := fun w v hd => mustgetc_cons E p v _ false d0 _ w hd
  replace hm3 := zz hm3
  obtain ⟨S, hS⟩ : ∃ S, S = dn.length + 2 := ⟨_, rfl⟩
  have hlen2 : ∀ w v, Dec E w p v ((dn ++ [38]) ++ [35]) false false (ds' ++ 59 :: (srcs l ++ tl)) -> Calls Tryz.prog 124 #[.pointer (some ⟨E.D, 7, none⟩)] w fun e w' => e = .returned (.int .i64 S) /\ ∃ n, w' = w.drewN n := fun w v hd => by
   have := blen E p v ((dn ++ [38]) ++ [35]) _ false false w hd (by simp; omega)
   have e : ((dn ++ [38]) ++ [35]).length = S := by simp; omega
   rw [e] at this
   exact this
  replace hlen2 := zz hlen2
  have hch : isCh (numFrom 10 0 ds) = true := hch
  have hV : numFrom 10 0 ds <= 1114111 := numFrom_lt (hex := false) hch
  have hpu : ∀ w, Calls Tryz.prog 152 #[.string ⟨ds.toArray⟩, .int .i64 10, .int .i64 64] w fun e w' => e = .returned (.tuple #[.int .u64 (numFrom 10 0 ds), .nilIface]) /\ Hid (Old w w') := fun w => parseUint_do 10 (by decide) ds hne hdg hV (by omega) w
  have hws : ∀ w v12, Dec E w p v12 dn false false (srcs l ++ tl) -> Calls Tryz.prog 155 #[.pointer (some ⟨E.D, 7, none⟩), .string (Utf8.encode (numFrom 10 0 ds))] w fun e w' => e = .returned (.tuple #[.int .i64 (Utf8.encode (numFrom 10 0 ds)).size, .nilIface]) /\ ∃ v', Hid (Dec E w' p v' (dn ++ u8 (numFrom 10 0 ds)) false false (srcs l ++ tl)) /\ Hid (St E w v12 w' v') := fun w v12 hd =>
   (wstring E p v12 dn _ false false (Utf8.encode (numFrom 10 0 ds)) w hd (by omega) (encode_size _ (isCh_ok hch)).1 (encode_size _ (isCh_ok hch)).2).mono (by
    rintro e w' ⟨h0, v', h1, h2⟩
    rw [encode_u8 _ (isCh_ok hch)] at h1
    exact ⟨h0, v', h1, h2⟩)
  have hK2 : ∀ (t' : Array Value) (w' : World) (v' : Value), FrT E.D (.int .i64 _) (.bool false) 0 0 t' -> Dec E w' p v' (dn ++ u8 (numFrom 10 0 ds)) true false (srcs l ++ tl) -> St E wr v1 w' v' -> K ⟨t', []⟩ w' := hK.out
  clear hK
  replace hK2 := zz hK2
  have hch2 : isCh (numFrom 10 0 ds) = true := hch
  clear hch
  obtain ⟨V, hVe⟩ : ∃ V, V = numFrom 10 0 ds := ⟨_, rfl⟩
  rw [<- hVe] at hV hpu hws hK2 hch2
  clear hVe
  have hVI : (V : Int) <= 1114111 := by omega
  have hVw : IntKind.i32.wrap (V : Int) = (V : Int) := IntWalk.i32_in _ (by omega)
  replace hpu := zz hpu
  replace hws := zz hws
  have htr : ∀ w v9, Dec E w p v9 ((((dn ++ [38]) ++ [35]) ++ ds) ++ [59]) false false (srcs l ++ tl) -> Calls Tryz.prog 123 #[.pointer (some ⟨E.D, 7, none⟩), .int .i64 L] w fun e w' => e = .returned (.tuple #[]) /\ ∃ v', Hid (Dec E w' p v' dn false false (srcs l ++ tl)) /\ Hid (St E w v9 w' v') := fun w v9 hd =>
   (btrunc E p v9 _ _ false false L w hd (by simp; omega) (by simp; omega)).mono (by
    rintro e w' ⟨h0, v', h1, h2⟩
    refine ⟨h0, v', ?_, h2⟩
    have e : List.take L ((((dn ++ [38]) ++ [35]) ++ ds) ++ [59]) = dn := by rw [hL]; simp
    rw [e] at h1
    exact h1)
  replace htr := zz htr
  have hw59 : ∀ w v n, Dec E w p v (((dn ++ [38]) ++ [35]) ++ ds) false false (srcs l ++ tl) -> Calls Tryz.prog 119 #[.pointer (some ⟨E.D, 7, none⟩), .int .u8 59] (w.drewN n) fun e w' => e = .returned .nilIface /\ ∃ v', Hid (Dec E w' p v' ((((dn ++ [38]) ++ [35]) ++ ds) ++ [59]) false false (srcs l ++ tl)) /\ Hid (St E w v w' v') := fun w v n hd =>
   (wbyte E p v (((dn ++ [38]) ++ [35]) ++ ds) _ false false 59 _ (hd.drewN n) (by simp; omega)).mono (by rintro e w' ⟨h0, v', h1, h2⟩; exact ⟨h0, v', h1, (St.drewN (St.refl E w v) n).trans h2⟩)
  replace hw59 := zz hw59
  have hby : ∀ w g N cap, N = S + ds.length -> Dec E w p (.slice (some ⟨g, 0, none⟩) N cap) (((dn ++ [38]) ++ [35]) ++ ds) false false (srcs l ++ tl) -> Calls Tryz.prog 120 #[.pointer (some ⟨E.D, 7, none⟩)] w fun e w' => e = .returned (.slice (some ⟨g, 0, none⟩) N cap) /\ ∃ n, w' = w.drewN n /\ (convert 56 9 (.slice (some ⟨g, S, none⟩) (N - S) (cap - S))).run Tryz.prog (w.drewN n) = .ok (.string ⟨ds.toArray⟩) (w.drewN n) := fun w g N cap hN hd =>
   (bbytes E p _ _ _ _ _ w hd).mono (by
    rintro e w' ⟨h0, n, h1⟩
    refine ⟨h0, n, h1, Lies.str (w := w.drewN n) (s := ds) ?_ (by omega)⟩
    obtain ⟨g', cap', hv, _, hLi⟩ := hd.rowOf (.inr (by simp))
    simp only [Value.slice.injEq, Option.some.injEq, Addr.mk.injEq] at hv
    obtain ⟨⟨rfl, _⟩, _, rfl⟩ := hv
    intro j c hj
    have := hLi (S + j) c (by rw [List.getElem?_append_right (by simp; omega)]; simp only [List.length_append, List.length_singleton]; rw [show S + j - _ = j by omega]; exact hj)
    rw [Nat.zero_add] at this
    exact this)
  replace hby := zz hby
  have hrow : ∀ w v, Dec E w p v (((dn ++ [38]) ++ [35]) ++ ds) false false (srcs l ++ tl) -> ∃ g N cap, v = .slice (some ⟨g, 0, none⟩) N cap /\ N = S + ds.length /\ S <= N /\ (S : Int) <= N /\ N <= cap /\ ¬ (cap = S) := fun w v hd => by
   obtain ⟨g, cap, rfl, hc, _⟩ := hd.rowOf (.inr (by simp))
   have : 0 < ds.length := by rw [hds]; simp
   have e : (((dn ++ [38]) ++ [35]) ++ ds).length = S + ds.length := by simp; omega
   rw [e] at hc ⊢
   exact ⟨g, _, cap, rfl, rfl, by omega, by omega, hc, by omega⟩
  replace hrow := zz hrow
  have hdg2 : Hid (ds = d0 :: ds') := zz hds
  have hdgH : Hid (∀ c ∈ ds, isDig 10 c = true) := zz hdg
  have h120 : ((d0.toNat : Int) == 120) = false := by
   have := hdg d0 (by rw [hds]; simp)
   simp only [isDig, decide_eq_true_eq] at this
   rw [beq_eq_false_iff_ne]; omega
  have hcw : ∀ w v done c strm, done.length <= ds.length -> Dec E w p v (((dn ++ [38]) ++ [35]) ++ done) false false strm -> Calls Tryz.prog 119 #[.pointer (some ⟨E.D, 7, none⟩), .int .u8 c.toNat] w fun e w' => e = .returned .nilIface /\ ∃ v', Hid (Dec E w' p v' (((dn ++ [38]) ++ [35]) ++ (done ++ [c])) false false strm) /\ Hid (St E w v w' v') := fun w v done c strm hdo hd => by
   refine (wbyte E p v (((dn ++ [38]) ++ [35]) ++ done) _ false false c w hd (by simp; omega)).mono ?_
   rintro e w' ⟨h0, v', h1, h2⟩
   rw [List.append_assoc (((dn ++ [38]) ++ [35])) done [c]] at h1
   exact ⟨h0, v', h1, h2⟩
  replace hcw := zz hcw
  clear hD hlo hsrc hrf hds hdg hne hdn hdl hl
  replace hS := zz hS
  replace hL := zz hL
  go_wp2_with (first | (go_at_call 111; refine hg.mono ?_; rintro e w1 ⟨rfl, k1⟩) | (go_at_call 124; refine (hlen.out w1 k1.out.1).mono ?_; rintro e w2 ⟨rfl, n2, rfl⟩; clear hlen) | (go_at_call 119; refine (hw38.out w1 v1 n2 k1.out.1).mono ?_; rintro e w3 ⟨rfl, k3⟩; obtain ⟨v3, d3, s3⟩ := k3; clear hw38) |
    (go_at_call 114; refine (hm1.out w3 v3 d3.out).mono ?_; rintro e w4 ⟨rfl, k4⟩; clear hm1) | (go_at_call 119; refine (hw35.out w4 v3 k4.out.1).mono ?_; rintro e w5 ⟨rfl, k5⟩; obtain ⟨v5, d5, s5⟩ := k5; clear hw35) | (go_at_call 114; refine (hm3.out w5 v5 d5.out).mono ?_; rintro e w8 ⟨rfl, k8⟩; clear hm3) | (go_at_call 124; refine (hlen2.out w8 v5 k8.out.1).mono ?_; rintro e w9 ⟨rfl, n9, rfl⟩; clear hlen2))
  have hS0 : Hid (St E wr v1 (w8.drewN n9) v5) := zz (St.drewN (((((St.rd v1 k1.out.2).trans s3.out).andRd k4.out.2).trans s5.out).andRd k8.out.2) n9)
  have hD0 : Hid (Dec E (w8.drewN n9) p v5 ((dn ++ [38]) ++ [35]) false false (ds' ++ 59 :: (srcs l ++ tl))) := zz (k8.out.1.drewN n9)
  clear hg k1 k4 k8 s3 s5 d3 d5
  obtain ⟨w0, hw0⟩ : ∃ w0, w0 = w8.drewN n9 := ⟨_, rfl⟩
  rw [<- hw0] at hS0 hD0 ⊢
  clear hw0
  go_loopg [6, 10] ds.length (fun k u6 b wr' => ∃ (x : UInt8) (done rs : List UInt8) (v : Value) (strm : List UInt8), u6 = .slice none 0 0 /\ b = .int .u8 x.toNat /\ ds = done ++ rs /\ rs.length = k /\ rs ++ 59 :: (srcs l ++ tl) = x :: strm /\ Dec E wr' p v (((dn ++ [38]) ++ [35]) ++ done) false false strm /\ St E wr v1 wr' v)
  case atStart =>
   exact ⟨d0, [], d0 :: ds', v5, (ds' ++ 59 :: (srcs l ++ tl)), rfl, rfl, hdg2.out, by rw [hdg2.out], rfl, by rw [List.append_nil]; exact hD0.out, hS0.out⟩
  case round =>
   obtain ⟨x, done, rs, v, strm, rfl, rfl, hdo, hk, hx, hDl, hSl⟩ := hrel
   replace hSl := zz hSl
   replace hDl := zz hDl
   cases rs with
   | nil =>
    have ex : x = 59 /\ strm = (srcs l ++ tl) := by simpa [eq_comm] using hx
    obtain ⟨rfl, rfl⟩ := ex
    have hdo' : done = ds := by simpa using hdo.symm
    subst hdo'
    obtain ⟨g, N, cap, rfl, hN, hN1, hN2, hN3, hN4⟩ := hrow.out _ _ hDl.out
    replace hN := zz hN
    clear hS0 hD0 hdo hx hk hcw
    go_wp2_with (first | (go_at_call 120; refine (hby.out _ g N cap hN.out hDl.out).mono ?_; rintro e w2 ⟨rfl, n2, rfl, hcv⟩) | (go_at_call 119; refine (hw59.out _ _ n2 hDl.out).mono ?_; rintro e w3 ⟨rfl, k3⟩; obtain ⟨v3, d3, s3⟩ := k3) | (go_at_call 152; refine (hpu.out w3).mono ?_; rintro e w4 ⟨rfl, k4⟩) |
     (go_at_call 123; refine (htr.out _ v3 (d3.out.old k4.out)).mono ?_; rintro e w5 ⟨rfl, k5⟩; obtain ⟨v5, d5, s5⟩ := k5) | (go_at_call 155; refine (hws.out _ v5 d5.out).mono ?_; rintro e w6 ⟨rfl, k6⟩; obtain ⟨v6, d6, s6⟩ := k6))
    exact hK2.out _ _ v6 ⟨rfl, rfl, rfl, rfl, rfl, rfl, rfl, rfl⟩ d6.out.up ((((hSl.out.trans s3.out).trans ⟨Fr.of_old k4.out, Nw.refl _ _⟩).trans s5.out).trans s6.out)
   | cons c rs =>
    have ex : x = c /\ strm = rs ++ 59 :: (srcs l ++ tl) := by simpa [eq_comm] using hx
    obtain ⟨rfl, rfl⟩ := ex
    have hdc := hdgH.out x (by rw [hdo]; simp)
    have hdol : done.length <= ds.length := by rw [hdo]; simp
    have hdo2 : Hid (ds = (done ++ [x]) ++ rs) := zz (by rw [hdo]; simp)
    obtain ⟨y, strm2, hy⟩ : ∃ y strm2, rs ++ 59 :: (srcs l ++ tl) = y :: strm2 := by cases rs with | nil => exact ⟨_, _, rfl⟩ | cons a b => exact ⟨_, _, rfl⟩
    rw [hy] at hDl
    have hm := fun w v bs hd => mustgetc_cons E p v bs false y strm2 w hd
    replace hm := zz hm
    replace hy := zz hy
    replace hk := zz hk
    replace hdol := zz hdol
    simp only [isDig, decide_eq_true_eq] at hdc
    clear hS0 hD0 hdo hx
    have g1 : (48 : Int) <= x.toNat := by omega
    have g2 : (x.toNat : Int) <= 57 := by omega
    clear hdc
    go_wp2_with (first | (go_at_call 119; refine (hcw.out _ v done x _ hdol.out hDl.out).mono ?_; rintro e w2 ⟨rfl, k2⟩; obtain ⟨v2, d2, s2⟩ := k2) | (go_at_call 114; refine (hm.out w2 v2 _ d2.out).mono ?_; rintro e w3 ⟨rfl, k3, k3'⟩; replace k3 := zz k3; replace k3' := zz k3'))
    go_roundg rs.length
    case measure => have := hk.out; simp at this; omega
    case rel => exact ⟨y, done ++ [x], rs, v2, strm2, rfl, rfl, hdo2.out, rfl, hy.out, k3.out, (hSl.out.trans s2.out).andRd k3'.out⟩
end Go.Proofs.YtepbbahdhhjibaaGreatDoor
