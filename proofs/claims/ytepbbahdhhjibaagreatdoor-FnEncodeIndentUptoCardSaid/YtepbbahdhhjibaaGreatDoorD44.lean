/- own text -/
import Derived.Test.YtepbbahdhhjibaaGreatDoorCards
import Derived.Test.YtepbbahdhhjibaaGreatDoorTie
import Derived.ProofKit
import Derived.OpenShut
import Derived.ChangeMaps5
import Derived.LaidHandle
import Derived.Lay
import Derived.PinnedBridge
import Derived.Lib.LaidU8T
import Derived.Stop.LaidErr
import Derived.SevenTiedAt
import Derived.Stop.Joined
import Derived.Test.YtepbbahdhhjibaaGreatDoorD30
import Derived.Test.YtepbbahdhhjibaaGreatDoorD38
import Derived.Test.YtepbbahdhhjibaaGreatDoorD41
import Derived.Test.YtepbbahdhhjibaaGreatDoorD43
namespace Go.Proofs.YtepbbahdhhjibaaGreatDoor
set_option linter.unusedSimpArgs false
set_option linter.unusedVariables false
set_option maxHeartbeats 8000000
set_option maxRecDepth 100000
section
open Go.RowKit
theorem nameB_size (nm : List Nat) : (nameB nm).size = (nb nm).length := by rw [Lib.size_eq]; rfl
theorem esc5 (nl : Bool) (rs : List Nat) : (escL nl rs).length <= 5 * (nb rs).length := by
 have h1 := escL_len nl rs
 have h2 := nb_len_ge rs
 omega
theorem attrs_bulk (kv : List (List Nat × List Nat)) : (attrsOut kv).length <= 5 * atBulk (kvA kv) := by
 induction kv with
 | nil => exact Nat.zero_le _
 | cons x kv ih =>
  have e1 : attrsOut (x :: kv) = attrOut x ++ attrsOut kv := rfl
  have e2 : atBulk (kvA (x :: kv)) = (0 + (nameB x.1).size + (nameB x.2).size + 4) + atBulk (kvA kv) := by
   simp only [atBulk, kvA, List.map_cons, List.sum_cons]; rfl
  have e3 : (attrOut x).length = (nb x.1).length + (escL true x.2).length + 4 := by simp [attrOut]; omega
  have e4 := esc5 true x.2
  rw [nameB_size, nameB_size] at e2
  rw [e1, List.length_append, e2]
  omega
theorem tk_bulk {g : GT} {t : Tk} (h : g.er = gtOf t) (hel : t.el = true) : (tkOut t).length <= 5 * gtBulk g := by
 have e1 : g.loc = t.loc := by have := congrArg GT.loc h; rw [gtOf_all] at this; exact this
 have e2 : g.ats = kvA t.kv := by have := congrArg GT.ats h; rw [gtOf_all] at this; exact this
 cases t with
 | st nm kv =>
  have h1 := attrs_bulk kv
  have h2 : gtBulk g = g.sp.size + (nb nm).length + g.txt.size + atBulk (kvA kv) + 7 := by
   unfold gtBulk; rw [e1, e2, show Tk.loc (.st nm kv) = nameB nm from rfl, nameB_size]; rfl
  have h3 : (tkOut (.st nm kv)).length = (nb nm).length + (attrsOut kv).length + 2 := by simp [tkOut, startOut]; omega
  omega
 | en nm =>
  have h2 : gtBulk g = g.sp.size + (nb nm).length + g.txt.size + atBulk g.ats + 7 := by
   unfold gtBulk; rw [e1, show Tk.loc (.en nm) = nameB nm from rfl, nameB_size]
  have h3 : (tkOut (.en nm)).length = (nb nm).length + 3 := by simp [tkOut]
  omega
 | tx rs => cases hel
 | cm d => cases hel
 | pi nm d => cases hel
theorem out_bulk : ∀ (gs : List GT) (tks : List Tk), gs.map GT.er = tks.map gtOf -> (∀ t ∈ tks, t.el = true) -> (toksOut tks).length <= 5 * gsBulk gs := by
 intro gs
 induction gs with
 | nil => intro tks h _; cases tks with
  | nil => exact Nat.zero_le _
  | cons t tks => simp at h
 | cons g gs ih =>
  intro tks h hel
  cases tks with
  | nil => simp at h
  | cons t tks =>
   rw [List.map_cons, List.map_cons] at h
   injection h with h1 h2
   have h3 := tk_bulk h1 (hel t (by simp))
   have h4 := ih tks h2 (fun x hx => hel x (by simp [hx]))
   have e : gsBulk (g :: gs) = gtBulk g + gsBulk gs := by simp [gsBulk]
   rw [toksOut_cons, List.length_append, e]
   omega
theorem gs_mem {gs : List GT} {g : GT} (h : g ∈ gs) : gtBulk g <= gsBulk gs := by
 induction gs with
 | nil => cases h
 | cons x gs ih =>
  have e : gsBulk (x :: gs) = gtBulk x + gsBulk gs := by simp [gsBulk]
  rcases List.mem_cons.1 h with rfl | h
  ·omega
  ·have := ih h; omega
theorem at_mem {ats : List (ByteArray × ByteArray × ByteArray)} {x : ByteArray × ByteArray × ByteArray} (h : x ∈ ats) : x.1.size + x.2.1.size + x.2.2.size + 4 <= atBulk ats := by
 induction ats with
 | nil => cases h
 | cons y ats ih =>
  have e : atBulk (y :: ats) = (y.1.size + y.2.1.size + y.2.2.size + 4) + atBulk ats := by simp [atBulk]
  rcases List.mem_cons.1 h with rfl | h
  ·omega
  ·have := ih h; omega
theorem len_bulk (gs : List GT) : gs.length <= gsBulk gs := by
 induction gs with
 | nil => exact Nat.zero_le _
 | cons g gs ih =>
  have e : gsBulk (g :: gs) = gtBulk g + gsBulk gs := by simp [gsBulk]
  have : 1 <= gtBulk g := by unfold gtBulk; omega
  rw [e, List.length_cons]; omega
theorem solid_toksW {pre ind : List UInt8} : ∀ (l : List Tk) (i : Iv), (∀ t ∈ l, t.el = true) -> ((toksW pre ind i l).map gtOf).filter GT.solid = l.map gtOf := by
 intro l
 induction l with
 | nil => intro i _; rfl
 | cons t l ih =>
  intro i hel
  have he := hel t (by simp)
  have hw : ((wsTk (i.lead pre ind t)).map gtOf).filter GT.solid = [] := by
   unfold wsTk
   split
   ·rfl
   ·rfl
  have hs : GT.solid (gtOf t) = true := by cases t <;> first | rfl | cases he
  show ((wsTk _ ++ t :: toksW pre ind (i.next t) l).map gtOf).filter GT.solid = _
  rw [List.map_append, List.filter_append, hw, List.nil_append, List.map_cons, List.filter_cons, hs, if_pos rfl, ih _ (fun x hx => hel x (by simp [hx])), List.map_cons]
theorem solid_er (gs : List GT) : (gs.filter GT.solid).map GT.er = (gs.map GT.er).filter GT.solid := by
 induction gs with
 | nil => rfl
 | cons g gs ih =>
  have e : GT.solid g.er = GT.solid g := rfl
  rw [List.map_cons, List.filter_cons, List.filter_cons, e]
  cases GT.solid g
  ·simpa using ih
  ·simp [ih]
theorem el_kind {t : Tk} (h : t.el = true) : (gtOf t).kind ≠ 3 := by cases t <;> first | (cases h; done) | simp [gtOf]
theorem map_kind {gs : List GT} {tks : List Tk} (h : gs.map GT.er = tks.map gtOf) (hel : ∀ t ∈ tks, t.el = true) : ∀ g ∈ gs, g.kind ≠ 3 := by
 intro g hg
 have h1 : g.er ∈ tks.map gtOf := by rw [<- h]; exact List.mem_map.2 ⟨g, hg, rfl⟩
 obtain ⟨t, ht, e⟩ := List.mem_map.1 h1
 have h2 := el_kind (hel t ht)
 rw [e] at h2
 exact h2
theorem toksW_ws {pre ind : List UInt8} (hp : blankL pre) (hi : blankL ind) : ∀ (l : List Tk) (i : Iv), (∀ t ∈ l, t.el = true) -> ∀ g ∈ (toksW pre ind i l).map gtOf, g.kind = 3 -> ∀ c ∈ g.txt.data.toList, isWs c = true := by
 intro l
 induction l with
 | nil => intro i _ g hg; cases hg
 | cons t l ih =>
  intro i hel g hg hk
  have he := hel t (by simp)
  have hw := ivlead_ws hp hi i t
  change g ∈ (wsTk (i.lead pre ind t) ++ t :: toksW pre ind (i.next t) l).map gtOf at hg
  rw [List.map_append, List.map_cons] at hg
  rcases List.mem_append.1 hg with hg | hg
  ·generalize i.lead pre ind t = q at hg hw
   unfold wsTk at hg
   split at hg
   ·cases hg
   ·obtain rfl : g = gtOf (.tx (q.map UInt8.toNat)) := by simpa using hg
    intro c hc
    have e : (gtOf (.tx (q.map UInt8.toNat))).txt.data.toList = nb (q.map UInt8.toNat) := rfl
    rw [e, nb_ws hw] at hc
    rcases hw c hc with rfl | rfl | rfl <;> decide
  ·rcases List.mem_cons.1 hg with rfl | hg
   ·exact absurd hk (el_kind he)
   ·exact ih _ (fun x hx => hel x (by simp [hx])) g hg hk
theorem toksW_txt {pre ind : List UInt8} (hp : blankL pre) (hi : blankL ind) : ∀ (l : List Tk) (i : Iv), (∀ t ∈ l, t.el = true) -> ∀ g ∈ (toksW pre ind i l).map gtOf, g.txt.size <= (outI pre ind i l).length := by
 intro l
 induction l with
 | nil => intro i _ g hg; cases hg
 | cons t l ih =>
  intro i hel g hg
  have he := hel t (by simp)
  have hw := ivlead_ws hp hi i t
  change g ∈ (wsTk (i.lead pre ind t) ++ t :: toksW pre ind (i.next t) l).map gtOf at hg
  have ho : (outI pre ind i (t :: l)).length = (i.lead pre ind t).length + (tkOut t).length + (outI pre ind (i.next t) l).length := by
   simp only [outI, List.length_append]; omega
  rw [List.map_append, List.map_cons] at hg
  rcases List.mem_append.1 hg with hg | hg
  ·generalize i.lead pre ind t = q at hg hw ho
   unfold wsTk at hg
   split at hg
   ·cases hg
   ·obtain rfl : g = gtOf (.tx (q.map UInt8.toNat)) := by simpa using hg
    have e : (gtOf (.tx (q.map UInt8.toNat))).txt.data.toList = nb (q.map UInt8.toNat) := rfl
    rw [Lib.size_eq, e, nb_ws hw]
    omega
  ·rcases List.mem_cons.1 hg with rfl | hg
   ·have : (gtOf t).txt.size = 0 := by cases t <;> first | rfl | cases he
    omega
   ·have := ih _ (fun x hx => hel x (by simp [hx])) g hg
    omega
theorem ToksAt.old {w w' : World} {base : Nat} {lv : Value} {tks : List Tk} (h : ToksAt w base lv tks) (f : Old w w') : ToksAt w' base lv tks := by
 obtain ⟨cs, h1, h2⟩ := h.ex
 exact ⟨⟨cs, ownsRow_frame h1 f (fun _ _ h => h), h2.keep f (fun _ _ h => h)⟩, h.own⟩
def docA : List Item := [.st [97] [] [] true]
theorem docA_ok : docOk [] docA := by
 refine ⟨⟨⟨⟨97, [], rfl, by decide, fun x h => (by cases h)⟩, by decide⟩, by decide, fun a h => (by cases h), fun b h => (by cases h)⟩, fun h => (by cases h), rfl⟩
theorem docA_src : srcI docA = [60, 97, 47, 62] := by decide
theorem docA_toks : toksI docA = [.st [97] [], .en [97]] := rfl
theorem reads_do (ep : Addr) (w : World) (hG : w.cell? ⟨0, 0, none⟩ = some (.iface 192 (.pointer (some ep)))) (hU : UT w) (h5 : 5 <= w.heap.size) :
  Calls Tryz.prog 16 #[] w fun e w' => e = .returned (.bool true) /\ Hid (Old w w') := by
 have ht := tokens_do [60, 97, 47, 62] docA ep w (by decide) docA_src docA_ok (by rw [docA_toks]; decide) hG hU h5
 have ht2 : Calls Tryz.prog 11 #[.string ⟨#[60, 97, 47, 62]⟩, .slice none 0 0, .bool false, .agg #[.bool false, .bool false, .slice none 0 0, .slice none 0 0, .string ⟨#[]⟩]] w fun e w' => ∃ g cap : Nat, e = .returned (.tuple #[.slice (some ⟨g, 0, none⟩) 2 cap, .int .i64 0]) /\ (w'.cell? ⟨g, 0, none⟩ = some (.int .i64 1) /\ w'.cell? ⟨g, 8, none⟩ = some (.int .i64 2) /\ w'.cell? ⟨g, 10, none⟩ = some (.string ⟨#[97]⟩)) /\ Hid (Old w w') := by
  refine ht.mono ?_
  rintro e w' ⟨lv, rfl, h1, h2⟩
  obtain ⟨cs, h3, h4⟩ := h2.ex
  obtain ⟨g, cap, hv, _, hc⟩ := ownsRow_some h3 (by rw [docA_toks]; decide)
  obtain ⟨av, o, l, c, _, e1, e2, e3, e4, e5, e6, e7, e8⟩ := h4.get8 0 (by rw [docA_toks]; decide)
  obtain ⟨av', o', l', c', _, f1, f2, f3, f4, f5, f6, f7, f8⟩ := h4.get8 1 (by rw [docA_toks]; decide)
  subst hv
  exact ⟨g, cap, rfl, ⟨hc _ _ e1, hc _ _ f1, hc _ _ f3⟩, h1⟩
 replace ht2 := zz ht2
 clear ht hG hU h5
 go_enter Tryz.func16, Tryz.ntmps16
 go_wp2_with (go_at_call 11; refine ht2.out.mono ?_; rintro e w1 ⟨g, cap, rfl, ⟨c0, c1, c2⟩, k1⟩)
 go_ret
 exact ⟨rfl, k1⟩
theorem indent_off (W : World) (lv : Value) (gs : List GT) (hL : LG W lv gs) (hgl : gs.length <= 1048576) (hgz : ∀ g ∈ gs, g.loc.size <= 549755813888 /\ g.txt.size <= 549755813888 /\ ∀ x ∈ g.ats, x.2.1.size <= 549755813888) (sp si : ByteArray) (hspz : sp.size <= 1048576) (hsiz : si.size <= 1048576) (hoff : 65536 < gs.length \/ si.size = 0) :
  Calls Tryz.prog 3 #[lv, .string sp, .string si] W fun e w' => e = .returned (.bool true) /\ Hid (Old W w') := by
 have hf := fits4_do W lv gs hL (by omega)
 have hp : gs.length <= 65536 -> ∀ w1, Old W w1 -> Calls Tryz.prog 6 #[lv, .bool false] w1 fun e w' => ∃ r : Bool, e = .returned (.bool r) /\ Hid (Old W w') := fun hn w1 ho => (splain_do w1 lv gs (hL.old ho) (by omega) hgz).mono (fun e w' x => by obtain ⟨r, h1, h2⟩ := x; exact ⟨r, h1, ho.old h2.out.1⟩)
 have hb : ∀ w1, Old W w1 -> Calls Tryz.prog 7 #[.string sp] w1 fun e w' => ∃ r : Bool, e = .returned (.bool r) /\ Hid (Old W w') := fun w1 ho => (blank_do sp (by omega) w1).mono (fun e w' x => by obtain ⟨r, h1, h2⟩ := x; exact ⟨r, h1, by rw [h2.out.1]; exact ho⟩)
 have hb2 : ∀ w1, Old W w1 -> Calls Tryz.prog 7 #[.string si] w1 fun e w' => ∃ r : Bool, e = .returned (.bool r) /\ Hid (Old W w') := fun w1 ho => (blank_do si (by omega) w1).mono (fun e w' x => by obtain ⟨r, h1, h2⟩ := x; exact ⟨r, h1, by rw [h2.out.1]; exact ho⟩)
 obtain ⟨pv, cv, rfl⟩ := hL.shape
 obtain ⟨N, hN⟩ : ∃ N, N = gs.length := ⟨_, rfl⟩
 rw [<- hN] at hgl hoff hp hf ⊢
 have i1 : ¬ (2147483647 : Int) < (sp.size : Int) := by omega
 have i2 : ¬ (2147483647 : Int) < (si.size : Int) := by omega
 replace hf := zz hf
 replace hb := zz hb
 replace hb2 := zz hb2
 replace hN := zz hN
 clear hL hgz
 by_cases hbig : 65536 < N
 ·have i3 : (65536 : Int) < (N : Int) := by omega
  replace hbig := zz hbig
  clear hp hoff
  go_enter Tryz.func3, Tryz.ntmps3
  go_wp2_with (go_at_call 5; refine hf.out.mono ?_; rintro e w1 ⟨_ | _, rfl, k1⟩)
  all_goals (
   go_ret
   exact ⟨rfl, k1.out⟩)
 ·have i3 : ¬ (65536 : Int) < (N : Int) := by omega
  have hs0 : si.size = 0 := hoff.resolve_left hbig
  have z1 := toList_nil hs0
  have z2 := List.isEmpty_iff.1 z1
  have hp' := hp (by omega)
  replace hp' := zz hp'
  replace hbig := zz hbig
  replace hs0 := zz hs0
  clear hp hoff
  go_enter Tryz.func3, Tryz.ntmps3
  go_wp2_with (first
   | (go_at_call 5; refine hf.out.mono ?_; rintro e w1 ⟨_ | _, rfl, k1⟩)
   | (go_at_call 6; refine (hp'.out _ k1.out).mono ?_; rintro e w2 ⟨_ | _, rfl, k2⟩)
   | (go_at_call 7; refine (hb2.out _ k3.out).mono ?_; rintro e w4 ⟨_ | _, rfl, k4⟩)
   | (go_at_call 7; refine (hb.out _ k2.out).mono ?_; rintro e w3 ⟨_ | _, rfl, k3⟩))
  all_goals (
   go_ret
   first
    | exact ⟨rfl, k4.out⟩
    | exact ⟨rfl, k3.out⟩
    | exact ⟨rfl, k2.out⟩
    | exact ⟨rfl, k1.out⟩)
theorem indent_do (W : World) (lv : Value) (gs : List GT) (hL : LG W lv gs) (hbk : gsBulk gs <= 1048576) (sp si : ByteArray) (hspz : sp.size <= 1048576) (hsiz : si.size <= 1048576) (ep : Addr) (hG : W.cell? ⟨0, 0, none⟩ = some (.iface 192 (.pointer (some ep)))) (hU : UT W) (h5 : 5 <= W.heap.size) :
  Calls Tryz.prog 3 #[lv, .string sp, .string si] W fun e w' => e = .returned (.bool true) /\ Hid (Old W w') := by
 have hgl : gs.length <= 1048576 := Nat.le_trans (len_bulk gs) hbk
 have hgz : ∀ g ∈ gs, g.loc.size <= 549755813888 /\ g.txt.size <= 549755813888 /\ ∀ x ∈ g.ats, x.2.1.size <= 549755813888 := fun g hg => by
  have h1 := gs_mem hg
  unfold gtBulk at h1
  exact ⟨by omega, by omega, fun x hx => by have := at_mem hx; omega⟩
 have hgv : ∀ g ∈ gs, ∀ x ∈ g.ats, x.2.2.size <= 549755813888 := fun g hg x hx => by
  have h1 := gs_mem hg
  unfold gtBulk at h1
  have := at_mem hx; omega
 by_cases hoff : 65536 < gs.length \/ si.size = 0
 ·exact indent_off W lv gs hL hgl hgz sp si hspz hsiz hoff
 have hn : gs.length <= 65536 := by omega
 have hsi0 : 0 < si.size := by omega
 have hf := fits4_do W lv gs hL (by omega)
 have hp : ∀ w1, Old W w1 -> Calls Tryz.prog 6 #[lv, .bool false] w1 fun e w' => ∃ r : Bool, e = .returned (.bool r) /\ Hid (Old W w' /\ (r = true -> PlR gs)) := fun w1 ho => (splain_do w1 lv gs (hL.old ho) (by omega) hgz).mono (fun e w' x => by obtain ⟨r, h1, h2⟩ := x; exact ⟨r, h1, ho.old h2.out.1, h2.out.2⟩)
 have hb : ∀ w1, Old W w1 -> Calls Tryz.prog 7 #[.string sp] w1 fun e w' => ∃ r : Bool, e = .returned (.bool r) /\ Hid (Old W w' /\ (r = true -> blankL sp.data.toList /\ sp.size <= 100)) := fun w1 ho => (blank_do sp (by omega) w1).mono (fun e w' x => by obtain ⟨r, h1, h2⟩ := x; exact ⟨r, h1, by rw [h2.out.1]; exact ho, h2.out.2⟩)
 have hb2 : ∀ w1, Old W w1 -> Calls Tryz.prog 7 #[.string si] w1 fun e w' => ∃ r : Bool, e = .returned (.bool r) /\ Hid (Old W w' /\ (r = true -> blankL si.data.toList /\ si.size <= 100)) := fun w1 ho => (blank_do si (by omega) w1).mono (fun e w' x => by obtain ⟨r, h1, h2⟩ := x; exact ⟨r, h1, by rw [h2.out.1]; exact ho, h2.out.2⟩)
 obtain ⟨pv, cv, rfl⟩ := hL.shape
 obtain ⟨N, hN⟩ : ∃ N, Hid (N = gs.length) := ⟨_, zz rfl⟩
 rw [<- hN.out] at hgl hn hp hf hL ⊢
 have i1 : ¬ (2147483647 : Int) < (sp.size : Int) := by omega
 have i2 : ¬ (2147483647 : Int) < (si.size : Int) := by omega
 have i3 : ¬ (65536 : Int) < (N : Int) := by omega
 have z1 := toList_ne hsi0
 have z2 : ¬ si.toList = [] := fun e => by rw [e] at z1; exact absurd z1 (by decide)
 replace hf := zz hf
 replace hp := zz hp
 replace hb := zz hb
 replace hb2 := zz hb2
 replace hL := zz hL
 replace hgz := zz hgz
 replace hgv := zz hgv
 replace hbk := zz hbk
 have hG' := zz hG
 have hU' := zz hU
 have h5' := zz h5
 clear hoff hG hU h5
 go_enter Tryz.func3, Tryz.ntmps3
 go_wp2_with (first
  | (go_at_call 5; refine hf.out.mono ?_; rintro e w1 ⟨_ | _, rfl, k1⟩)
  | (go_at_call 6; refine (hp.out _ k1.out).mono ?_; rintro e w2 ⟨_ | _, rfl, k2⟩)
  | (go_at_call 7; refine (hb2.out _ k3.out.1).mono ?_; rintro e w4 ⟨_ | _, rfl, k4⟩)
  | (go_at_call 7; refine (hb.out _ k2.out.1).mono ?_; rintro e w3 ⟨_ | _, rfl, k3⟩))
 any_goals (first
  | (go_ret; exact ⟨rfl, k4.out.1⟩)
  | (go_ret; exact ⟨rfl, k3.out.1⟩)
  | (go_ret; exact ⟨rfl, k2.out.1⟩)
  | (go_ret; exact ⟨rfl, k1.out⟩))
 have hPl := k2.out.2 (by first | rfl | trivial)
 obtain ⟨hpb, hpz⟩ := k3.out.2 (by first | rfl | trivial)
 obtain ⟨hib, hiz⟩ := k4.out.2 (by first | rfl | trivial)
 have hO4 := k4.out.1
 replace hPl := zz hPl
 replace hpb := zz hpb
 replace hib := zz hib
 replace hO4 := zz hO4
 replace hsi0 := zz hsi0
 clear hf hp hb hb2 k1 k2 k3 k4 i1 i2 i3 z1 z2
 go_loopg [52] N (fun k u52 wr => ∃ i : Nat, u52 = .int .i64 i /\ i + k = N /\ Old W wr /\ ∀ (j : Nat) (h : j < gs.length), j < i -> gs[j].kind ≠ 3 /\ gs[j].kind ≠ 4 /\ gs[j].kind ≠ 5)
 case atStart => exact ⟨0, rfl, by omega, hO4.out, fun j h hj => absurd hj (Nat.not_lt_zero _)⟩
 case round =>
  obtain ⟨i, rfl, hik, hO, hk⟩ := hrel
  obtain ⟨W1, rfl⟩ : ∃ W1, W1 = wr := ⟨_, rfl⟩
  clear hO4
  by_cases hi : i < N
  ·have hil : i < gs.length := by rw [<- hN.out]; exact hi
   obtain ⟨g, o, pa, ca, rfl, hA, e1, e2, e3, e4, e5, e6⟩ := hL.out.get i hil
   have hvz := hgv.out _ (List.getElem_mem hil)
   have hk' : (gs[i].kind ≠ 3 /\ gs[i].kind ≠ 4 /\ gs[i].kind ≠ 5) -> ∀ (j : Nat) (h : j < gs.length), j < i + 1 -> gs[j].kind ≠ 3 /\ gs[j].kind ≠ 4 /\ gs[j].kind ≠ 5 := fun h j hjl hj => by
    by_cases he : j = i
    ·subst he; exact h
    ·exact hk j hjl (by omega)
   generalize gs[i]'hil = T0 at e1 e2 e3 e4 e5 e6 hA hvz hk'
   obtain ⟨kind, tsp, tloc, ats, txt, pos⟩ := T0
   dsimp only at hA e1 e2 e3 e4 e5 e6 hvz hk'
   obtain ⟨M, hM⟩ : ∃ M, Hid (M = ats.length) := ⟨_, zz rfl⟩
   rw [<- hM.out] at hA e4
   have hMl : M <= 549755813888 := by
    obtain ⟨_, _, _, _, h3⟩ := hA.shape
    rw [hM.out]; exact h3
   replace e1 := hO.cell e1
   replace e2 := hO.cell e2
   replace e3 := hO.cell e3
   replace e4 := hO.cell e4
   replace e5 := hO.cell e5
   replace e6 := hO.cell e6
   have hi2 : (i : Int) < (N : Int) := by omega
   have hI : IntKind.i64.wrap ((i : Int) + 1) = ((i + 1 : Nat) : Int) := by rw [IntWalk.i64_in _ (by omega)]; omega
   obtain ⟨R, hR⟩ : ∃ R, R = W1.heap.size := ⟨_, rfl⟩
   obtain ⟨W2, hW2⟩ : ∃ W2, W2 = W1.alloc (.cells #[.int .i64 kind, .string tsp, .string tloc, .slice pa (M : Nat) ca, .string txt, .int .i64 pos] 28) := ⟨_, rfl⟩
   have hb : Blk W2 R #[.int .i64 kind, .string tsp, .string tloc, .slice pa (M : Nat) ca, .string txt, .int .i64 pos] 28 := by rw [hW2, hR]; exact Blk.new W1 _ _
   have hO12 : Old W1 W2 := by rw [hW2]; exact (Fr.refl _ W1).alloc _
   have hO2 : Old W W2 := hO.old hO12
   have hA2 : AtL W2 (.slice pa (M : Nat) ca) ats := hA.old hO2
   have y0 : W2.cell? ⟨R, 0, none⟩ = some (.int .i64 kind) := by rw [hb.cell]; rfl
   have y3 : W2.cell? ⟨R, 3, none⟩ = some (.slice pa (M : Nat) ca) := by rw [hb.cell]; rfl
   have hkk : kind = 3 \/ kind = 4 \/ kind = 5 \/ ((kind == 3) = false /\ (kind == 4) = false /\ (kind == 5) = false /\ Hid (kind ≠ 3 /\ kind ≠ 4 /\ kind ≠ 5)) := by
    by_cases h3 : kind = 3
    ·exact .inl h3
    by_cases h4 : kind = 4
    ·exact .inr (.inl h4)
    by_cases h5 : kind = 5
    ·exact .inr (.inr (.inl h5))
    exact .inr (.inr (.inr ⟨beq_eq_false_iff_ne.2 h3, beq_eq_false_iff_ne.2 h4, beq_eq_false_iff_ne.2 h5, h3, h4, h5⟩))
   replace hik := zz hik
   replace hI := zz hI
   replace hA2 := zz hA2
   replace hO2 := zz hO2
   replace hvz := zz hvz
   replace hk' := zz hk'
   clear hA hb hO hO12 hk
   go_upto_region 8 with fail
   rw [<- hW2, <- hR]
   replace hW2 := zz hW2
   replace hR := zz hR
   clear e1 e2 e3 e4 e5 e6
   have hI2 := hI.out
   rcases hkk with rfl | rfl | rfl | ⟨x1, x2, x3, hkn⟩
   ·go_wp2
    go_ret
    exact ⟨rfl, hO2.out⟩
   ·go_wp2
    go_ret
    exact ⟨rfl, hO2.out⟩
   ·go_wp2
    go_ret
    exact ⟨rfl, hO2.out⟩
   ·obtain ⟨ko, rfl⟩ : ∃ ko, ko = gk := ⟨_, rfl⟩
    go_wp2
    go_loopg [72] M (fun k u72 wr => ∃ j : Nat, u72 = .int .i64 j /\ j + k = M /\ Old W2 wr)
    case atStart => exact ⟨0, rfl, by omega, Fr.refl _ _⟩
    case round =>
     obtain ⟨j, rfl, hjk, hO3⟩ := hrel
     obtain ⟨W3, rfl⟩ : ∃ W3, W3 = wr := ⟨_, rfl⟩
     by_cases hj : j < M
     ·have hjl : j < ats.length := by rw [<- hM.out]; exact hj
      obtain ⟨g', o', rfl, q1, q2, q3⟩ := (hA2.out.old hO3).get j hjl
      have hvj := hvz.out _ (List.getElem_mem hjl)
      generalize ats[j]'hjl = xj at q1 q2 q3 hvj
      obtain ⟨sj, lj, vj⟩ := xj
      dsimp only at q1 q2 q3 hvj
      have hj2 : (j : Int) < (M : Int) := by omega
      have hJ : IntKind.i64.wrap ((j : Int) + 1) = ((j + 1 : Nat) : Int) := by rw [IntWalk.i64_in _ (by omega)]; omega
      obtain ⟨R5, hR5⟩ : ∃ R5, R5 = W3.heap.size := ⟨_, rfl⟩
      obtain ⟨W5, hW5⟩ : ∃ W5, W5 = W3.alloc (.cells #[.string sj, .string lj, .string vj] 30) := ⟨_, rfl⟩
      have hO5 : Old W2 W5 := by rw [hW5]; exact hO3.alloc _
      have hb5 : Blk W5 R5 #[.string sj, .string lj, .string vj] 30 := by rw [hW5, hR5]; exact Blk.new W3 _ _
      have b2 : W5.cell? ⟨R5, 2, none⟩ = some (.string vj) := by rw [hb5.cell]; rfl
      have hh := (has_do vj hvj W5).mono (R' := fun e w' => ∃ r : Bool, e = .returned (.bool r) /\ Hid (Old W2 w')) (fun e w' x => by obtain ⟨r, h1, h2⟩ := x; exact ⟨r, h1, by rw [h2.out]; exact hO5⟩)
      replace hh := zz hh
      replace hjk := zz hjk
      clear hb5 hO5 hO3 hvj
      go_upto_region 13 with fail
      rw [<- hW5, <- hR5]
      replace hW5 := zz hW5
      replace hR5 := zz hR5
      clear q1 q2 q3
      go_wp2_with (go_at_call 8; refine hh.out.mono ?_; rintro e w6 ⟨_ | _, rfl, k6⟩)
      ·go_roundg (gk - 1)
       case measure => have := hjk.out; omega
       case rel => exact ⟨j + 1, rfl, by have := hjk.out; omega, k6.out⟩
      ·go_ret
       exact ⟨rfl, hO2.out.old k6.out⟩
     ·have hj2 : ¬ (j : Int) < (M : Int) := by omega
      have hO6 := hO2.out.old hO3
      replace hO6 := zz hO6
      clear hO3 hjk
      go_wp2
      go_roundg (ko - 1)
      case measure => have := hik.out; omega
      case rel => exact ⟨i + 1, rfl, by have := hik.out; omega, hO6.out, hk'.out hkn.out⟩
  ·have hi2 : ¬ (i : Int) < (N : Int) := by omega
   have hfil : gs.filter GT.isEl = gs := List.filter_eq_self.2 (fun g hg => by
    obtain ⟨j, hj, rfl⟩ := List.getElem_of_mem hg
    have h1 := hk j hj (by have := hN.out; omega)
    have h2 := hPl.out.1 _ hg
    rcases (by omega : gs[j].kind = 1 \/ gs[j].kind = 2) with h | h <;> simp [GT.isEl, h])
   obtain ⟨tks, hmap, htk, hnest⟩ := hPl.out.2
   rw [hfil] at hmap
   have hel : ∀ t ∈ tks, t.el = true := fun t ht => (htk t ht).1
   have hok : ∀ t ∈ tks, tkOk t := fun t ht => (htk t ht).2.1
   have hnd : ∀ t ∈ tks, ndKv t.kv := fun t ht => (htk t ht).2.2
   have hlt := map_len hmap
   have hob := out_bulk gs tks hmap hel
   have hsmall : tks.length <= 65536 := by have := hN.out; omega
   have hout : (toksOut tks).length <= 100000000 := by have := hbk.out; omega
   have esp : (⟨sp.data.toList.toArray⟩ : ByteArray) = sp := by cases sp; simp
   have esi : (⟨si.data.toList.toArray⟩ : ByteArray) = si := by cases si; simp
   have hpl : sp.data.toList.length <= 100 := by rw [<- Lib.size_eq]; exact hpz
   have hil : si.data.toList.length <= 100 := by rw [<- Lib.size_eq]; exact hiz
   have hind : si.data.toList ≠ [] := fun e => by
    have := hsi0.out
    rw [Lib.size_eq, e] at this
    exact absurd this (by decide)
   obtain ⟨pre, hpre⟩ : ∃ pre, pre = sp.data.toList := ⟨_, rfl⟩
   obtain ⟨ind, hindd⟩ : ∃ ind, ind = si.data.toList := ⟨_, rfl⟩
   rw [<- hpre] at hpl esp
   rw [<- hindd] at hil hind esi
   have hpb2 := hpb.out
   have hib2 := hib.out
   rw [<- hpre] at hpb2
   rw [<- hindd] at hib2
   obtain ⟨TW, hTW⟩ : ∃ TW, TW = toksW pre ind ⟨0, false, false⟩ tks := ⟨_, rfl⟩
   have hTWl : TW.length <= 131072 := by rw [hTW]; have := toksW_len pre ind tks ⟨0, false, false⟩; omega
   obtain ⟨O, hOd⟩ : ∃ O : ByteArray, O = ⟨(outI pre ind ⟨0, false, false⟩ tks).toArray⟩ := ⟨_, rfl⟩
   have hOl : O.data.toList = outI pre ind ⟨0, false, false⟩ tks := by rw [hOd]
   have hOs := outI_small pre ind hpl hil tks ⟨0, false, false⟩ rfl hsmall hout
   have hUw : ∀ w1, Old W w1 -> UT w1 := fun w1 ho => hU'.out.fr ho (fun h => h) (fun h => h)
   have h5w : ∀ w1, Old W w1 -> 5 <= w1.heap.size := fun w1 ho => Nat.le_trans h5'.out ho.size
   have hLW := hL.out
   rw [hN.out] at hLW
   have c10 := lgiven_do W1 _ gs tks (hLW.old hO) hmap hel (by omega)
   rw [<- hN.out] at c10 hLW
   have c9 : ∀ (lv2 : Value) (w2 w3 : World), Old W w3 -> ToksAt w3 w2.heap.size lv2 tks -> Calls Tryz.prog 9 #[lv2, .string sp, .string si, .bool true] w3 fun e w' => e = .returned (.tuple #[.string O, .int .i64 0]) /\ Hid (Old w3 w') := fun lv2 w2 w3 ho hT => by
    have h := encode_do pre ind hind hpl hil lv2 tks _ w3 hT hok hel hnest hsmall hout (hUw _ ho) (h5w _ ho)
    rw [esp, esi, <- hOd] at h
    exact h
   have c11 : ∀ (w4 : World), Old W w4 -> Calls Tryz.prog 11 #[.string O, .slice none 0 0, .bool false, .agg #[.bool false, .bool false, .slice none 0 0, .slice none 0 0, .string ⟨#[]⟩]] w4 fun e w' => ∃ lv, e = .returned (.tuple #[lv, .int .i64 0]) /\ Hid (Old w4 w' /\ ToksAt w' w4.heap.size lv TW) := fun w4 ho => by
    have h := tokens_do (outI pre ind ⟨0, false, false⟩ tks) (itemsI pre ind ⟨0, false, false⟩ tks) ep w4 (by omega) (itemsI_src pre ind tks _) (docI hpb2 hib2 tks _ _ hel hok hnest) (by rw [itemsI_toks, <- hTW]; omega) (ho.cell hG'.out) (hUw _ ho) (h5w _ ho)
    rw [<- hOd, itemsI_toks, <- hTW] at h
    refine h.mono ?_
    rintro e w' ⟨lv, rfl, h1, h2⟩
    exact ⟨lv, rfl, h1, h2⟩
   have c14 : ∀ (lv3 : Value) (w4 w5 : World), ToksAt w5 w4.heap.size lv3 TW -> Calls Tryz.prog 14 #[lv3] w5 fun e w' => ∃ lv', e = .returned lv' /\ Hid (Old w5 w' /\ ∃ gs, RowG w' lv' gs /\ gs.map GT.er = TW.map gtOf) := fun lv3 w4 w5 hT => plain_do w5 _ lv3 TW hT (by omega)
   have hws := toksW_ws hpb2 hib2 tks ⟨0, false, false⟩ hel
   have hsol := solid_toksW (pre := pre) (ind := ind) tks ⟨0, false, false⟩ hel
   have hts := toksW_txt hpb2 hib2 tks ⟨0, false, false⟩ hel
   rw [<- hTW] at hws hsol hts
   have c13 : ∀ (lv4 : Value) (w6 : World) (gs1 : List GT), RowG w6 lv4 gs1 -> gs1.map GT.er = TW.map gtOf -> Calls Tryz.prog 13 #[lv4] w6 fun e w' => ∃ lv', e = .returned lv' /\ Hid (Old w6 w' /\ RowA w' lv' (gs1.filter GT.solid)) := fun lv4 w6 gs1 h1 he1 => by
    have l1 := map_len he1
    refine solid_do w6 lv4 gs1 h1.lg (by omega) (fun g hg => ?_)
    have h1 : g.er ∈ TW.map gtOf := by rw [<- he1]; exact List.mem_map.2 ⟨g, hg, rfl⟩
    have h2 : g.txt.size <= _ := hts g.er h1
    exact ⟨by omega, fun hk => hws g.er h1 hk⟩
   have c12 : ∀ (lv5 : Value) (w7 : World) (gs1 : List GT), Old W w7 -> RowA w7 lv5 (gs1.filter GT.solid) -> gs1.map GT.er = TW.map gtOf -> Calls Tryz.prog 12 #[lv5, .slice pv (N : Nat) cv, .bool false] w7 fun e w' => e = .returned (.bool true) /\ Hid (Old w7 w') := fun lv5 w7 gs1 ho h1 he1 => by
    have l1 := map_len he1
    have l2 := List.length_filter_le GT.solid gs1
    have he : (gs1.filter GT.solid).map GT.er = gs.map GT.er := by rw [solid_er, he1, hsol, hmap]
    have he2 : (gs1.filter GT.solid).map GT.er = tks.map gtOf := by rw [he, hmap]
    exact same_do w7 lv5 _ _ gs h1.lg (hLW.old ho) (by omega) (by have := hN.out; omega) (map_kind he2 hel) (map_kind hmap hel) he
   have c15 : ∀ (w8 : World), Calls Tryz.prog 15 #[.string O, .string sp, .string si] w8 fun e w' => e = .returned (.bool true) /\ Hid (Old w8 w') := fun w8 =>
    indented_yes pre ind hind hpb2 hib2 hpl hil tks hel hok hnd hnest hsmall hout O sp si hOl hpre.symm hindd.symm w8
   have c16 : ∀ w9, Old W w9 -> Calls Tryz.prog 16 #[] w9 fun e w' => e = .returned (.bool true) /\ Hid (Old w9 w') := fun w9 ho => reads_do ep w9 (ho.cell hG'.out) (hUw _ ho) (h5w _ ho)
   replace c10 := zz c10
   replace c9 := zz c9
   replace c11 := zz c11
   replace c14 := zz c14
   replace c13 := zz c13
   replace c12 := zz c12
   replace c15 := zz c15
   replace c16 := zz c16
   replace hO := zz hO
   clear hk hfil hmap htk hnest hel hok hnd hlt hob hsmall hout esp esi hpl hil hind hpre hindd hpb2 hib2 hTW hTWl hOd hOl hOs hUw h5w hLW hws hsol hts hik
   go_upto_region 19 with (first
    | (go_at_call 11; refine (c11.out _ o3.out).mono ?_; rintro e w4 ⟨lv3, rfl, k4⟩; have o4 := zz (o3.out.old k4.out.1))
    | (go_at_call 9; refine (c9.out _ _ _ o2.out k2.out.2).mono ?_; rintro e w3 ⟨rfl, k3⟩; have o3 := zz (o2.out.old k3.out))
    | (go_at_call 10; refine c10.out.mono ?_; rintro e w2 ⟨lv2, rfl, k2⟩; have o2 := zz (hO.out.old k2.out.1)))
   go_wp2_with (first
    | (go_at_call 16; refine (c16.out _ o8.out).mono ?_; rintro e w9 ⟨rfl, k9⟩)
    | (go_at_call 15; refine (c15.out _).mono ?_; rintro e w8 ⟨rfl, k8⟩; have o8 := zz (o7.out.old k8.out))
    | (go_at_call 12; refine (c12.out _ _ _ o6.out k6.out.2 k5.out.2).mono ?_; rintro e w7 ⟨rfl, k7⟩; have o7 := zz (o6.out.old k7.out))
    | (go_at_call 13; refine (c13.out _ _ _ k5.out.1 k5.out.2).mono ?_; rintro e w6 ⟨lv5, rfl, k6⟩; have o6 := zz (o5.out.old k6.out.1))
    | (go_at_call 14; refine (c14.out _ _ _ k4.out.2).mono ?_; rintro e w5 ⟨lv4, rfl, k5'⟩; obtain ⟨gs1, k5''⟩ := k5'.out.2; have k5 := zz k5''; clear k5''; have o5 := zz (o4.out.old k5'.out.1)))
   go_ret
   exact ⟨rfl, o8.out.old k9.out⟩
end
section
open Go.ChangeShapes Go.WideShapes Go.ChangeAt Go.RowKit Go.Shelf
def plainL : List (String × DataW Unit) := [("math/bits.deBruijn32tab", Rows.laid_math_bits_deBruijn32tab), ("math/bits.deBruijn64tab", Rows.laid_math_bits_deBruijn64tab), ("internal/strconv.uint64pow10", Rows.laid_internal_strconv_uint64pow10), ("unicode/utf8.acceptRanges", Rows.laid_unicode_utf8_acceptRanges), ("strconv.ErrRange", Rows.laid_strconv_ErrRange), ("strconv.ErrSyntax", Rows.laid_strconv_ErrSyntax), ("io.ErrShortWrite", Rows.laid_io_ErrShortWrite), ("io.EOF", Rows.laid_io_EOF), ("unicode.asciiFold", Rows.laid_unicode_asciiFold), ("unicode.caseOrbit", Rows.laid_unicode_caseOrbit), ("bytes.ErrTooLarge", Rows.laid_bytes_ErrTooLarge), ("unicode.CaseRanges", Rows.laid_unicode_CaseRanges), ("unicode/utf8.first", Rows.laid_unicode_utf8_first)]
theorem ownT : ownKnob Tryz.prog.godebug = none := by kernel_rfl
theorem gEOF : Tryz.prog.globalNamed "io.EOF" = some 0 := by kernel_rfl
theorem gEOFType : (Tryz.prog.globals[0]?).map (·.type) = some 70 := by kernel_rfl
theorem star_errorString : "*" ++ "errors.errorString" = "*errors.errorString" := by decide
theorem row192 (u : TypeId) (h : Tryz.prog.typeName? 3 u = some "*errors.errorString") : u = 192 :=
 typeName_ptr_named (nm := "errors.errorString") (by rw [star_errorString]; kernel_rfl) (by kernel_rfl) (by decide) u (by rw [star_errorString]; exact h)
theorem filterIsNone : (Rows.fnEncodeIndentUptoRow.laid.filter fun x => x.2.handleName?.isNone) = plainL := by kernel_rfl
theorem plain_of_laid {W : World} (h : laidMetH Tryz.prog Rows.fnEncodeIndentUptoRow.laid W) : laidMet Tryz.prog plainL W := by
 have h' : laidMet Tryz.prog (Rows.fnEncodeIndentUptoRow.laid.filter fun x => x.2.handleName?.isNone) W /\ handlesMet Tryz.prog [("errors.errorType", Rows.laid_errors_errorType)] W := h
 rw [filterIsNone] at h'
 exact h'.1
theorem eof_of_laid {W : World} (h : laidMet Tryz.prog plainL W) : ∃ a : Addr, W.cell? ⟨0, 0, none⟩ = some (.iface 192 (.pointer (some a))) := by
 obtain ⟨a, s, h1, _⟩ := laid_sentinel (f := { name := "s", type := 9, offset := 0, embedded := false, tag := "", pkgPath := "errors", byteOffset := 0 }) (te := 194) (ts := 9) (tp := 192) h.tail.tail.tail.tail.tail.tail.tail gEOF gEOFType Tryz.underlying70 row192 Tryz.underlying192 Tryz.underlying194 rfl rfl Tryz.underlying9 (by kernel_rfl) (by kernel_rfl)
 exact ⟨a, by simpa using World.var?_cell gEOF h1 0⟩
def ren8 : Ren := ⟨fun x => x, fun x => if x = 119 then 276 else if x = 138 then 278 else if x = 139 then 279 else x, fun x => x⟩
theorem u8types : U8Types Tryz.prog ren8 := ⟨Tryz.underlying5, Tryz.underlying276, Tryz.underlying278, Tryz.underlying279⟩
theorem u8extra : U8Extra Tryz.prog ren8 := ⟨by kernel_rfl, by kernel_rfl, by kernel_rfl, by kernel_rfl, by kernel_rfl, by kernel_rfl, by kernel_rfl⟩
theorem accept_eq : Rows.laid_unicode_utf8_acceptRanges (H := Unit) = Lib.acceptData := by kernel_rfl
theorem utf8_of_laid {W : World} (h : laidMet Tryz.prog plainL W) : UT W := by
 have h4 : Lib.VarReads Tryz.prog W "unicode/utf8.acceptRanges" Lib.acceptData := accept_eq ▸ Lib.laidMet.reads h (.tail _ (.tail _ (.tail _ (.head _))))
 have h3 : Lib.VarReads Tryz.prog W "unicode/utf8.first" Lib.firstData := Pinned.utf8First_eq ▸ Lib.laidMet.reads h (.tail _ (.tail _ (.tail _ (.tail _ (.tail _ (.tail _ (.tail _ (.tail _ (.tail _ (.tail _ (.tail _ (.tail _ (.head _)))))))))))))
 exact utf8Tabs_of_readsT u8types u8extra h3 h4
end
end Go.Proofs.YtepbbahdhhjibaaGreatDoor
