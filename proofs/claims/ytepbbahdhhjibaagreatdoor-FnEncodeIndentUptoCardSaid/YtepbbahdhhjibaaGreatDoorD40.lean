/- own text -/
import Derived.Test.YtepbbahdhhjibaaGreatDoorD39
namespace Go.Proofs.YtepbbahdhhjibaaGreatDoor
set_option linter.unusedSimpArgs false
set_option linter.unusedVariables false
set_option maxHeartbeats 8000000
set_option maxRecDepth 100000
open Go.RowKit
theorem two_ne {c d : UInt8} {t l lit : List UInt8} (h : c ≠ d) (hl : l = 60 :: c :: t) (n : Nat) (hn : 2 <= n) : l.take n ≠ 60 :: d :: lit := by
 subst hl
 match n, hn with
 | n + 2, _ =>
  intro e
  simp at e
  exact h e.1
theorem token_st (P : Nat) (s : ByteArray) (base : Nat) (w : World) (a : Nat) (q : PV) (vd : Int) (gs : List GT) (h : SQ P s base w a q vd gs [] []) (hz : s.size <= 549755813888) (hn : gs.length <= 1000) (hbase : base <= w.heap.size) (haz : a <= s.size) (nm : List Nat) (hnm : NameOk nm) (kv : List (List Nat × List Nat)) (hkv : ∀ x ∈ kv, NameOk x.1 /\ (nb x.1 == [120, 109, 108, 110, 115]) = false /\ ∀ r ∈ x.2, isCh r = true) (hnd : ndKv kv) (rest : List UInt8) (hL : s.data.toList.drop a = startOut nm kv ++ rest) :
  Calls Tryz.prog 43 #[.pointer (some ⟨P, 0, none⟩)] w fun e w' => e = .returned (.bool true) /\ Hid (AddP P s base w (a + (startOut nm kv).length) q vd gs 1 w') := by
 have hP0 : base <= P := h.lo P (.inl rfl)
 have hlen : a + (startOut nm kv).length = a + 1 + (nb nm).length + (attrsOut kv).length + 1 := by
  unfold startOut; simp only [List.length_append, List.length_cons, List.length_nil]; omega
 rw [hlen]
 obtain ⟨c, t, hnh, hwb⟩ := name_head hnm
 have hL1 : s.data.toList.drop a = [60] ++ (nb nm ++ (attrsOut kv ++ ([62] ++ rest))) := by rw [hL]; simp [startOut]
 have hL2 : s.data.toList.drop a = 60 :: c :: (t ++ (attrsOut kv ++ ([62] ++ rest))) := by rw [hL1, hnh]; rfl
 have hgo := at_go hL1
 simp only [List.length_cons, List.length_nil] at hgo
 have hsz := at_le hL1 haz
 simp only [List.length_append, List.length_cons, List.length_nil] at hsz
 obtain ⟨_, _, h47, _⟩ := wb_ws hwb
 have h63 : c ≠ 63 := by rintro rfl; exact absurd hwb (by decide)
 have h33 : c ≠ 33 := by rintro rfl; exact absurd hwb (by decide)
 obtain ⟨_, g1, _⟩ := at_byte hL2
 have g1' : ∀ h : a < s.size, (s[a]'h).toNat = 60 := g1
 obtain ⟨c0, c1, _⟩ := h.blk.c
 have i1 : (a : Int) < (s.size : Int) := by omega
 have i2 : IntKind.i64.wrap ((a : Int) + 1) = ((a + 1 : Nat) : Int) := by rw [IntWalk.i64_in _ (by omega)]; omega
 have hS := fun m => (SP.start h.blk).drewN (w1 := w) m
 have hN : ∀ (lit : List UInt8) (hl : (s.data.toList.drop a).take lit.length ≠ lit) (hll : lit.length <= 1000) (w1 : World), SP P s q vd w a w1 -> Calls Tryz.prog 76 #[.pointer (some ⟨P, 0, none⟩), .string ⟨lit.toArray⟩] w1 fun e w' => e = .returned (.bool false) /\ SPc P s a w' /\ Hid (SP P s q vd w a w') := fun lit hl hll w1 k => k.hasN hz haz lit hl hll
 have n1 := hN [60, 47] (two_ne h47 hL2 2 (by omega)) (by decide)
 have n2 := hN [60, 63] (two_ne h63 hL2 2 (by omega)) (by decide)
 have n3 := hN [60, 33, 45, 45] (two_ne h33 hL2 4 (by omega)) (by decide)
 have n4 := hN [60, 33, 91, 67, 68, 65, 84, 65, 91] (two_ne h33 hL2 9 (by omega)) (by decide)
 have n5 := hN [60, 33, 68, 79, 67, 84, 89, 80, 69] (two_ne h33 hL2 9 (by omega)) (by decide)
 have n6 := hN [60, 33] (two_ne h33 hL2 2 (by omega)) (by decide)
 have hst : ∀ w1, SP P s q vd w a w1 -> Calls Tryz.prog 84 #[.pointer (some ⟨P, 0, none⟩)] (w1.setCell ⟨P, 1, none⟩ (.int .i64 ((a + 1 : Nat) : Int))) fun e w' => e = .returned (.bool true) /\ Hid (AddP P s base w (a + 1 + (nb nm).length + (attrsOut kv).length + 1) q vd gs 1 w') := fun w1 k => by
  have k' := k.set1 (a + 1)
  refine (startTag_yes P s base _ (a + 1) q vd gs (h.sp k') hz hn (Nat.le_trans hbase k'.2.size) (by omega) nm hnm kv hkv hnd rest hgo).mono ?_
  rintro e w' ⟨rfl, x⟩
  exact ⟨rfl, x.out.from k'.2⟩
 replace hS := zz hS
 replace n1 := zz n1
 replace n2 := zz n2
 replace n3 := zz n3
 replace n4 := zz n4
 replace n5 := zz n5
 replace n6 := zz n6
 replace hst := zz hst
 clear h hL hL1 hL2 hgo hsz hnh hwb h47 h63 h33 g1 hN hkv hnd hnm hlen
 go_enter Tryz.func43, Tryz.ntmps43
 go_wp2
 go_quiet (fail)
 have k0 := zz (hS.out nq)
 go_wp2_with (first
  | (go_at_call 76; refine (n6.out _ k5.out).mono ?_; rintro e w6 ⟨rfl, ⟨d0, d1, df⟩, k6⟩; clear k5)
  | (go_at_call 76; refine (n5.out _ k4.out).mono ?_; rintro e w5 ⟨rfl, _, k5⟩; clear k4)
  | (go_at_call 76; refine (n4.out _ k3.out).mono ?_; rintro e w4 ⟨rfl, _, k4⟩; clear k3)
  | (go_at_call 76; refine (n3.out _ k2.out).mono ?_; rintro e w3 ⟨rfl, _, k3⟩; clear k2)
  | (go_at_call 76; refine (n2.out _ k1.out).mono ?_; rintro e w2 ⟨rfl, _, k2⟩; clear k1)
  | (go_at_call 76; refine (n1.out _ k0.out).mono ?_; rintro e w1 ⟨rfl, _, k1⟩; clear k0)
  | (go_at_call 84; refine (hst.out _ k6.out).mono ?_; rintro e w7 ⟨rfl, k7⟩))
 go_ret
 exact ⟨rfl, k7.out⟩
theorem token_en (P : Nat) (s : ByteArray) (base : Nat) (w : World) (a : Nat) (q : PV) (vd : Int) (gs : List GT) (h : SQ P s base w a q vd gs [] []) (hz : s.size <= 549755813888) (hn : gs.length <= 1000) (hbase : base <= w.heap.size) (haz : a <= s.size) (nm : List Nat) (hnm : NameOk nm) (rest : List UInt8) (hL : s.data.toList.drop a = tkOut (.en nm) ++ rest) :
  Calls Tryz.prog 43 #[.pointer (some ⟨P, 0, none⟩)] w fun e w' => e = .returned (.bool true) /\ Hid (AddP P s base w (a + (tkOut (.en nm)).length) q vd gs 2 w') := by
 have hlen : a + (tkOut (.en nm)).length = a + 2 + (nb nm).length + 1 := by
  simp only [tkOut, List.length_append, List.length_cons, List.length_nil]; omega
 rw [hlen]
 have hL1 : s.data.toList.drop a = [60, 47] ++ (nb nm ++ ([62] ++ rest)) := by rw [hL]; simp [tkOut]
 have hL2 : s.data.toList.drop a = 60 :: (47 :: (nb nm ++ ([62] ++ rest))) := by rw [hL1]; rfl
 have hgo := at_go hL1
 simp only [List.length_cons, List.length_nil] at hgo
 have hsz := at_le hL1 haz
 simp only [List.length_append, List.length_cons, List.length_nil] at hsz
 obtain ⟨_, g1, _⟩ := at_byte hL2
 have g1' : ∀ h : a < s.size, (s[a]'h).toNat = 60 := g1
 obtain ⟨c0, c1, _⟩ := h.blk.c
 have i1 : (a : Int) < (s.size : Int) := by omega
 have hS := fun m => (SP.start h.blk).drewN (w1 := w) m
 have n1 : ∀ w1, SP P s q vd w a w1 -> Calls Tryz.prog 76 #[.pointer (some ⟨P, 0, none⟩), .string ⟨#[60, 47]⟩] w1 fun e w' => e = .returned (.bool true) /\ Hid (SP P s q vd w (a + 2) w') := fun w1 k => (k.hasY hz haz [60, 47] _ hL1 (by decide)).mono (fun e w' x => ⟨x.1, x.2.2⟩)
 have hst : ∀ w1, SP P s q vd w (a + 2) w1 -> Calls Tryz.prog 77 #[.pointer (some ⟨P, 0, none⟩)] w1 fun e w' => e = .returned (.bool true) /\ Hid (AddP P s base w (a + 2 + (nb nm).length + 1) q vd gs 2 w') := fun w1 k => by
  refine (endTag_yes P s base _ (a + 2) q vd gs (h.sp k) hz hn (Nat.le_trans hbase k.2.size) (by omega) nm hnm rest hgo).mono ?_
  rintro e w' ⟨rfl, x⟩
  exact ⟨rfl, x.out.from k.2⟩
 replace hS := zz hS
 replace n1 := zz n1
 replace hst := zz hst
 clear h hL hL1 hL2 hgo hsz g1 hnm hlen
 go_enter Tryz.func43, Tryz.ntmps43
 go_wp2
 go_quiet (fail)
 have k0 := zz (hS.out nq)
 go_wp2_with (first
  | (go_at_call 76; refine (n1.out _ k0.out).mono ?_; rintro e w1 ⟨rfl, k1⟩; clear k0)
  | (go_at_call 77; refine (hst.out _ k1.out).mono ?_; rintro e w7 ⟨rfl, k7⟩))
 go_ret
 exact ⟨rfl, k7.out⟩
theorem tag_pos (t : Tk) (h : t.el = true) : 0 < (tkOut t).length := by
 cases t with
 | st nm kv => simp [tkOut, startOut]
 | en nm => simp [tkOut]
 | tx rs => cases h
 | cm d => cases h
 | pi nm d => cases h
theorem token_yes (P : Nat) (s : ByteArray) (base : Nat) (w : World) (a : Nat) (q : PV) (vd : Int) (gs : List GT) (h : SQ P s base w a q vd gs [] []) (hz : s.size <= 549755813888) (hn : gs.length <= 1000) (hbase : base <= w.heap.size) (haz : a <= s.size) (t : Tk) (hel : t.el = true) (hok : tkOk t) (hnd : ndKv t.kv) (rest : List UInt8) (hL : s.data.toList.drop a = tkOut t ++ rest) :
  Calls Tryz.prog 43 #[.pointer (some ⟨P, 0, none⟩)] w fun e w' => e = .returned (.bool true) /\ Hid (AddP P s base w (a + (tkOut t).length) q vd gs t.kind w') := by
 cases t with
 | st nm kv => exact token_st P s base w a q vd gs h hz hn hbase haz nm hok.1 kv hok.2.2 hnd rest hL
 | en nm => exact token_en P s base w a q vd gs h hz hn hbase haz nm hok.1 rest hL
 | tx rs => cases hel
 | cm d => cases hel
 | pi nm d => cases hel
theorem read_yes (tl : List Tk) (hel : ∀ t ∈ tl, t.el = true) (hok : ∀ t ∈ tl, tkOk t) (hnd : ∀ t ∈ tl, ndKv t.kv) (hn : tl.length <= 1000) (s : ByteArray) (hs : s.data.toList = toksOut tl) (hz : s.size <= 549755813888) (w : World) :
  Calls Tryz.prog 17 #[.string s, .bool true, .slice none 0 0, .string ⟨#[]⟩] w fun e w' => ∃ (lv : Value) (x : Value), e = .returned (.tuple #[lv, x]) /\ Hid (Old w w' /\ ∃ gs, RowG w' lv gs /\ gs.map GT.kind = tl.map Tk.kind) := by
 obtain ⟨P, hP⟩ : ∃ P, P = w.heap.size := ⟨_, rfl⟩
 obtain ⟨W0, hW0⟩ : ∃ W0, W0 = w.alloc (.cells #[.string s, .int .i64 0, .bool true, .slice none 0 0, .string ⟨#[]⟩, .slice none 0 0, .slice none 0 0, .slice none 0 0, .int .i64 0] 88) := ⟨_, rfl⟩
 have hB0 : PB W0 P s 0 ⟨.slice none 0 0, .slice none 0 0, .slice none 0 0⟩ 0 := by rw [hW0, hP]; exact Blk.new w _ _
 have hQ0 : SQ P s w.heap.size W0 0 ⟨.slice none 0 0, .slice none 0 0, .slice none 0 0⟩ 0 [] [] [] :=
  ⟨hB0, ⟨[], World.ownsRow_nil _ _ _ _, rfl⟩, World.ownsRow_nil _ _ _ _, ⟨[], World.ownsRow_nil _ _ _ _, rfl⟩, fun k hk => (by cases hk), fun k hk => (by cases hk), fun k hk => (by cases hk), fun x hx => by
   rcases hx with rfl | hx | hx | hx
   ·omega
   all_goals cases hx⟩
 have hO0 : Old w W0 := by rw [hW0]; exact (Fr.refl _ w).alloc _
 replace hQ0 := zz hQ0
 replace hO0 := zz hO0
 replace hel := zz hel
 replace hok := zz hok
 replace hnd := zz hnd
 replace hs := zz hs
 clear hB0
 go_enter Tryz.func17, Tryz.ntmps17
 go_wp2
 rw [<- hW0, <- hP]
 replace hW0 := zz hW0
 replace hP := zz hP
 go_loopg [] tl.length (fun k wr => ∃ (dn td : List Tk) (q : PV) (gs : List GT), tl = dn ++ td /\ td.length = k /\ SQ P s w.heap.size wr (toksOut dn).length q 0 gs [] [] /\ Old w wr /\ gs.map GT.kind = dn.map Tk.kind)
 case atStart => exact ⟨[], tl, _, [], rfl, rfl, hQ0.out, hO0.out, rfl⟩
 case round =>
  obtain ⟨dn, td, q, gs, htl, hk, hq, ho, hgk⟩ := hrel
  obtain ⟨W1, rfl⟩ : ∃ W1, W1 = wr := ⟨_, rfl⟩
  have hst := SP.start hq.blk
  have hwW := ho.size
  have hsrc : s.data.toList = toksOut dn ++ toksOut td := by rw [hs.out, htl, toksOut_app]
  have hgl : gs.length = dn.length := by have := congrArg List.length hgk; simpa using this
  have hdl : dn.length <= tl.length := by rw [htl]; simp
  have hdrop : s.data.toList.drop (toksOut dn).length = toksOut td := by rw [hsrc, List.drop_left]
  have hsz : s.size = (toksOut dn).length + (toksOut td).length := by rw [Lib.size_eq, hsrc, List.length_append]
  obtain ⟨a, ha⟩ : ∃ a, a = (toksOut dn).length := ⟨_, rfl⟩
  rw [<- ha] at hq hst hdrop hsz
  cases td with
  | nil =>
   have haz : s.size <= a := by simp [toksOut] at hsz; omega
   have he := (hst.endY haz).mono (R' := fun e w' => e = .returned (.bool true) /\ Hid (SP P s q 0 W1 a w')) (fun e w' x => ⟨x.1, hst.drw x.2⟩)
   obtain ⟨p6, k6, hp6⟩ := ownsRow_shape hq.opn
   have hcs := fun (w1 : World) (k : SP P s q 0 W1 a w1) => k.1.c
   have hrow := fun (w1 : World) (k : SP P s q 0 W1 a w1) => (hq.sp k).row
   have hold := fun (w1 : World) (k : SP P s q 0 W1 a w1) => ho.trans k.2 (fun x hx => .inr (by have h : x = P := hx; have := hP.out; omega))
   have hfin : gs.map GT.kind = tl.map Tk.kind := by rw [hgk, htl, List.append_nil]
   obtain ⟨ov, hov⟩ : ∃ ov, ov = q.ov := ⟨_, rfl⟩
   rw [<- hov] at hcs hrow
   rw [hp6] at hcs
   replace he := zz he
   replace hcs := zz hcs
   replace hrow := zz hrow
   replace hold := zz hold
   replace hfin := zz hfin
   replace hov := zz hov
   clear hst hq ho hp6 hgk htl hsrc hdrop hsz ha hk hgl hdl haz
   go_wp2_with (go_at_call 42; refine he.out.mono ?_; rintro e w2 ⟨rfl, k2⟩; obtain ⟨_, _, _, _, _, c5, c6, _⟩ := hcs.out _ k2.out)
   go_ret2
   exact ⟨ov, _, rfl, hold.out _ k2.out, gs, hrow.out _ k2.out, hfin.out⟩
  | cons t td =>
   have htm : t ∈ tl := by rw [htl]; simp
   have hpos := tag_pos t (hel.out t htm)
   rw [toksOut_cons] at hdrop hsz
   rw [List.length_append] at hsz
   have has : a < s.size := by omega
   have he := (hst.endN has).mono (R' := fun e w' => e = .returned (.bool false) /\ Hid (SP P s q 0 W1 a w')) (fun e w' x => ⟨x.1, hst.drw x.2⟩)
   have htk : ∀ (w1 : World), SP P s q 0 W1 a w1 -> Calls Tryz.prog 43 #[.pointer (some ⟨P, 0, none⟩)] w1 fun e w' => e = .returned (.bool true) /\ Hid (Old w w' /\ AddP P s w.heap.size W1 (a + (tkOut t).length) q 0 gs t.kind w') := fun w1 k => by
    refine (token_yes P s w.heap.size w1 a q 0 gs (hq.sp k) hz (by omega) (Nat.le_trans hwW k.2.size) (by omega) t (hel.out t htm) (hok.out t htm) (hnd.out t htm) _ hdrop).mono ?_
    rintro e w' ⟨rfl, x⟩
    have x2 := x.out.from k.2
    obtain ⟨q', g, _, _, x5⟩ := x2
    exact ⟨rfl, ho.trans x5.fr (fun y hy => .inr (hq.lo y hy)), x.out.from k.2⟩
   have hnext : tl = (dn ++ [t]) ++ td /\ a + (tkOut t).length = (toksOut (dn ++ [t])).length /\ td.length + 1 = gk := ⟨by rw [htl]; simp, by rw [toksOut_app, toksOut_one, List.length_append, ha], by simpa using hk⟩
   replace he := zz he
   replace htk := zz htk
   replace hnext := zz hnext
   replace hgk := zz hgk
   clear hst hq ho htl hsrc hdrop hsz ha hk hgl hdl hpos has htm
   go_wp2_with (first
    | (go_at_call 43; refine (htk.out _ k2.out).mono ?_; rintro e w3 ⟨rfl, k3⟩)
    | (go_at_call 42; refine he.out.mono ?_; rintro e w2 ⟨rfl, k2⟩))
   go_roundg td.length
   case measure => have := hnext.out.2.2; omega
   case rel =>
    obtain ⟨x1, q', g, x2, x3, x4⟩ := k3.out
    obtain ⟨n1, n2, n3⟩ := hnext.out
    refine ⟨dn ++ [t], td, q', gs ++ [g], n1, rfl, by rw [<- n2]; exact x3, x1, ?_⟩
    rw [List.map_append, List.map_append, hgk.out, List.map_cons, List.map_nil, List.map_cons, List.map_nil, x2]
end Go.Proofs.YtepbbahdhhjibaaGreatDoor
