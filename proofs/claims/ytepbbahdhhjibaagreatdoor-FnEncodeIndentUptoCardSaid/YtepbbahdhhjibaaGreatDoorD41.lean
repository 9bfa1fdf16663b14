/- own text -/
import Derived.Deep.CutRange
import Derived.Deep.CutBlock
import Derived.Test.YtepbbahdhhjibaaGreatDoorD40
namespace Go.Proofs.YtepbbahdhhjibaaGreatDoor
set_option linter.unusedSimpArgs false
set_option linter.unusedVariables false
set_option maxHeartbeats 8000000
set_option maxRecDepth 100000
open Go.RowKit
theorem line_one {pre ind : List UInt8} {o : List (List Nat)} {l : List Tk} (hel : ∀ t ∈ l, t.el = true) (hn : nestL o l = some []) (hne : l ≠ []) :
  ∃ tl td o' D, l = tl ++ td /\ nestL o' td = some [] /\ outI pre ind ⟨o.length, false, false⟩ l = (pre ++ (rep ind D ++ toksOut tl)) ++ outI pre ind ⟨o'.length, false, true⟩ td /\
   ((∃ nm, tl = [.en nm] /\ o.length = D + 1 /\ o'.length = D) \/ (∃ nm kv, tl = [.st nm kv, .en nm] /\ o.length = D /\ o'.length = D) \/ (∃ nm kv, tl = [.st nm kv] /\ o.length = D /\ o'.length = D + 1)) := by
 rcases line_cases (pre := pre) (ind := ind) hel hn hne with ⟨nm, o', l', rfl, rfl, h1, h2⟩ | ⟨nm, kv, l', rfl, h1, h2⟩ | ⟨nm, kv, l', rfl, _, h1, h2⟩
 ·exact ⟨[.en nm], l', o', o'.length, rfl, h1, by rw [h2, toksOut_one]; simp, .inl ⟨nm, rfl, rfl, rfl⟩⟩
 ·exact ⟨[.st nm kv, .en nm], l', o, o.length, rfl, h1, by rw [h2, toksOut_cons, toksOut_one]; simp, .inr (.inl ⟨nm, kv, rfl, rfl, rfl⟩)⟩
 ·exact ⟨[.st nm kv], l', nm :: o, o.length, rfl, h1, by rw [h2, toksOut_one]; simp, .inr (.inr ⟨nm, kv, rfl, rfl, rfl⟩)⟩
theorem rest_nl {pre ind : List UInt8} {d : Nat} {l : List Tk} (hel : ∀ t ∈ l, t.el = true) : (outI pre ind ⟨d, false, true⟩ l = [] /\ outI pre ind ⟨d, false, false⟩ l = []) \/ outI pre ind ⟨d, false, true⟩ l = 10 :: outI pre ind ⟨d, false, false⟩ l := by
 by_cases h : l = []
 ·subst h; exact .inl ⟨rfl, rfl⟩
 ·exact .inr (outI_nl hel h)
theorem toks_ten {l : List Tk} (hel : ∀ t ∈ l, t.el = true) (hok : ∀ t ∈ l, tkOk t) : (10 : UInt8) ∉ toksOut l := by
 intro h
 obtain ⟨t, ht, h⟩ := List.mem_flatMap.1 h
 exact tag_ten (hel t ht) (hok t ht) h
theorem rep_ten {x : List UInt8} (h : (10 : UInt8) ∉ x) (n : Nat) : (10 : UInt8) ∉ rep x n := fun hc => h (rep_mem hc)
theorem ba_eq {x : ByteArray} {l : List UInt8} (h : x.data.toList = l) : x = ⟨l.toArray⟩ := bytes_eq h
theorem tags_head {tl : List Tk} {D : Nat} {o o' : List (List Nat)} (hok : ∀ t ∈ tl, tkOk t) (h : (∃ nm, tl = [.en nm] /\ o.length = D + 1 /\ o'.length = D) \/ (∃ nm kv, tl = [.st nm kv, .en nm] /\ o.length = D /\ o'.length = D) \/ (∃ nm kv, tl = [.st nm kv] /\ o.length = D /\ o'.length = D + 1)) :
  ∃ c t, toksOut tl = 60 :: c :: t /\ ((c = 47 /\ o.length = D + 1) \/ (c ≠ 47 /\ o.length = D)) := by
 have hst : ∀ nm kv, tkOk (.st nm kv) -> ∃ c t, tkOut (.st nm kv) = 60 :: c :: t /\ c ≠ 47 := fun nm kv h => by
  obtain ⟨c, t, h1, h2⟩ := name_head h.1
  exact ⟨c, t ++ (attrsOut kv ++ [62]), by simp [tkOut, startOut, h1], (wb_ws h2).2.2.1⟩
 rcases h with ⟨nm, rfl, h1, _⟩ | ⟨nm, kv, rfl, h1, _⟩ | ⟨nm, kv, rfl, h1, _⟩
 ·exact ⟨47, nb nm ++ [62], by rw [toksOut_one]; rfl, .inl ⟨rfl, h1⟩⟩
 ·obtain ⟨c, t, h2, h3⟩ := hst nm kv (hok _ (by simp))
  exact ⟨c, t ++ tkOut (.en nm), by rw [toksOut_cons, toksOut_one, h2]; rfl, .inr ⟨h3, h1⟩⟩
 ·obtain ⟨c, t, h2, h3⟩ := hst nm kv (hok _ (by simp))
  exact ⟨c, t, by rw [toksOut_one, h2], .inr ⟨h3, h1⟩⟩
theorem gs_one {gs : List GT} {k : Int} (h : gs.map GT.kind = [k]) : ∃ g, gs = [g] /\ g.kind = k := by
 cases gs with
 | nil => simp at h
 | cons g t => cases t with
  | nil => exact ⟨g, rfl, by simpa using h⟩
  | cons _ _ => simp at h
theorem gs_two {gs : List GT} {k m : Int} (h : gs.map GT.kind = [k, m]) : ∃ g g', gs = [g, g'] /\ g.kind = k /\ g'.kind = m := by
 cases gs with
 | nil => simp at h
 | cons g t =>
  simp only [List.map_cons, List.cons.injEq] at h
  obtain ⟨g', h1, h2⟩ := gs_one h.2
  exact ⟨g, g', by rw [h1], h.1, h2⟩
theorem dep_fun {gs : List GT} {ks : List Int} {OL OR D : Nat} (hD : D <= 65536) (hk : (ks = [2] /\ OL = D + 1 /\ OR = D) \/ (ks = [1, 2] /\ OL = D /\ OR = D) \/ (ks = [1] /\ OL = D /\ OR = D + 1)) (hgk : gs.map GT.kind = ks) :
  ∃ f : Nat -> Nat, f 0 = OL /\ f gs.length = OR /\ (∀ j, f j <= 70000) /\ (gs.length = 1 \/ gs.length = 2) /\ (∀ j (h : j < gs.length), (gs[j].kind = 1 /\ f (j + 1) = f j + 1) \/ (gs[j].kind = 2 /\ f j = f (j + 1) + 1)) /\ (gs.length = 2 -> ∃ (h0 : 0 < gs.length) (h1 : 1 < gs.length), gs[0].kind = 1 /\ gs[1].kind = 2) := by
 rcases hk with ⟨h1, h2, h3⟩ | ⟨h1, h2, h3⟩ | ⟨h1, h2, h3⟩
 ·rw [h1] at hgk
  obtain ⟨g1, rfl, hg⟩ := gs_one hgk
  refine ⟨fun j => D + 1 - j, by show D + 1 - 0 = OL; omega, by show D + 1 - 1 = OR; omega, fun j => by show D + 1 - j <= 70000; omega, .inl rfl, fun j h => .inr ?_, fun h => absurd h (by simp)⟩
  obtain rfl : j = 0 := by simp at h; omega
  exact ⟨hg, by show D + 1 - 0 = D + 1 - 1 + 1; omega⟩
 ·rw [h1] at hgk
  obtain ⟨g1, g2, rfl, hg, hg'⟩ := gs_two hgk
  refine ⟨fun j => if j = 1 then D + 1 else D, by show D = OL; omega, by show D = OR; omega, fun j => by dsimp only; split <;> omega, .inr rfl, fun j h => ?_, fun _ => ⟨by simp, by simp, hg, hg'⟩⟩
  simp at h
  rcases (by omega : j = 0 \/ j = 1) with rfl | rfl
  ·exact .inl ⟨hg, rfl⟩
  ·exact .inr ⟨hg', rfl⟩
 ·rw [h1] at hgk
  obtain ⟨g1, rfl, hg⟩ := gs_one hgk
  refine ⟨fun j => D + min j 1, by show D + min 0 1 = OL; omega, by show D + min 1 1 = OR; omega, fun j => by show D + min j 1 <= 70000; omega, .inl rfl, fun j h => .inl ?_, fun h => absurd h (by simp)⟩
  obtain rfl : j = 0 := by simp at h; omega
  exact ⟨hg, by show D + min 1 1 = D + min 0 1 + 1; omega⟩
theorem indented_yes (pre ind : List UInt8) (hind : ind ≠ []) (hpb : blankL pre) (hib : blankL ind) (hpl : pre.length <= 100) (hil : ind.length <= 100) (tks : List Tk) (hel : ∀ t ∈ tks, t.el = true) (hok : ∀ t ∈ tks, tkOk t) (hnd : ∀ t ∈ tks, ndKv t.kv) (hn : nestL [] tks = some []) (hlen : tks.length <= 65536) (hsz : (toksOut tks).length <= 100000000)
  (s sp si : ByteArray) (hs : s.data.toList = outI pre ind ⟨0, false, false⟩ tks) (hsp : sp.data.toList = pre) (hsi : si.data.toList = ind) (w : World) :
  Calls Tryz.prog 15 #[.string s, .string sp, .string si] w fun e w' => e = .returned (.bool true) /\ Hid (Old w w') := by
 have hss : s.size <= 429603348736 := by rw [Lib.size_eq, hs]; exact outI_small pre ind hpl hil tks _ rfl hlen hsz
 have hspl : sp.size = pre.length := by rw [Lib.size_eq, hsp]
 have hsil : si.size = ind.length := by rw [Lib.size_eq, hsi]
 have hip : 0 < ind.length := List.length_pos_iff.2 hind
 have hsi0 := toList_ne (s := si) (by omega)
 have hsi1 : ¬ si.toList = [] := fun e => by rw [e] at hsi0; exact absurd hsi0 (by decide)
 have hp10 : (10 : UInt8) ∉ pre := fun h => by rcases hpb _ h with h | h <;> exact absurd h (by decide)
 have hi10 : (10 : UInt8) ∉ ind := fun h => by rcases hib _ h with h | h <;> exact absurd h (by decide)
 replace hel := zz hel
 replace hok := zz hok
 replace hnd := zz hnd
 replace hn := zz hn
 replace hs := zz hs
 replace hsp := zz hsp
 replace hsi := zz hsi
 replace hpb := zz hpb
 replace hib := zz hib
 replace hp10 := zz hp10
 replace hi10 := zz hi10
 clear hind
 go_enter Tryz.func15, Tryz.ntmps15
 go_wp2
 go_loopg [0, 7] tks.length (fun k u0 u7 wr => ∃ (dn td : List Tk) (o : List (List Nat)) (x : ByteArray), u0 = .string x /\ u7 = .int .i64 o.length /\ tks = dn ++ td /\ td.length = k /\ o.length <= dn.length /\ x.data.toList = outI pre ind ⟨o.length, false, false⟩ td /\ x.size <= 429603348736 /\ nestL o td = some [] /\ Old w wr)
 case atStart => exact ⟨[], tks, [], s, rfl, rfl, rfl, rfl, Nat.le_refl _, hs.out, hss, hn.out, Fr.refl _ w⟩
 case round =>
  obtain ⟨dn, td, o, x, rfl, rfl, htk, hk, hol, hx, hxs, hnest, hO⟩ := hrel
  have helt : ∀ t ∈ td, t.el = true := fun t ht => hel.out t (by rw [htk]; simp [ht])
  have hokt : ∀ t ∈ td, tkOk t := fun t ht => hok.out t (by rw [htk]; simp [ht])
  have hndt : ∀ t ∈ td, ndKv t.kv := fun t ht => hnd.out t (by rw [htk]; simp [ht])
  have hdl : dn.length <= tks.length := by rw [htk]; simp
  by_cases htd : td = []
  ·subst htd
   obtain rfl : o = [] := Option.some.inj hnest
   have hx0 : x.size = 0 := by rw [Lib.size_eq, hx]; rfl
   have z1 := toList_nil hx0
   have z2 := List.isEmpty_iff.1 z1
   replace hO := zz hO
   clear hx hx0 hxs hnest helt hokt hndt htk hk hol hdl
   go_wp2
   go_ret
   exact ⟨rfl, hO⟩
  ·obtain ⟨tl, td', o', D, e1, e2, e3, e4⟩ := line_one (pre := pre) (ind := ind) helt hnest htd
   have hokl : ∀ t ∈ tl, tkOk t := fun t ht => hokt t (by rw [e1]; simp [ht])
   have hell : ∀ t ∈ tl, t.el = true := fun t ht => helt t (by rw [e1]; simp [ht])
   have hndl : ∀ t ∈ tl, ndKv t.kv := fun t ht => hndt t (by rw [e1]; simp [ht])
   have helr : ∀ t ∈ td', t.el = true := fun t ht => helt t (by rw [e1]; simp [ht])
   obtain ⟨c, tt, hth, hcc⟩ := tags_head hokl e4
   obtain ⟨L, hL⟩ : ∃ L, L = pre ++ (rep ind D ++ toksOut tl) := ⟨_, rfl⟩
   obtain ⟨R, hR⟩ : ∃ R, R = outI pre ind ⟨o'.length, false, true⟩ td' := ⟨_, rfl⟩
   have hxLR : x.data.toList = L ++ R := by rw [hx, e3, hL, hR]
   have hL10 : (10 : UInt8) ∉ L := by
    rw [hL]
    intro h
    rcases List.mem_append.1 h with h | h
    ·exact hp10.out h
    ·rcases List.mem_append.1 h with h | h
     ·exact rep_ten hi10.out D h
     ·exact toks_ten hell hokl h
   have hRc := rest_nl (pre := pre) (ind := ind) (d := o'.length) helr
   rw [<- hR] at hRc
   have hxl : x.size = L.length + R.length := by rw [Lib.size_eq, hxLR, List.length_append]
   have hLp : 0 < L.length := by rw [hL, List.length_append, List.length_append, hth]; simp; omega
   have htL : (toksOut tl).length <= L.length := by rw [hL, List.length_append, List.length_append]; omega
   have hLpre : pre.length <= L.length := by rw [hL, List.length_append]; omega
   obtain ⟨ll, hll⟩ : ∃ ll, ll = L.length := ⟨_, rfl⟩
   obtain ⟨y, hy⟩ : ∃ y : ByteArray, y = ⟨L.toArray⟩ := ⟨_, rfl⟩
   have hyd : y.data.toList = L := by rw [hy]
   have hyl : y.size = ll := by rw [Lib.size_eq, hyd, hll]
   have z1 := toList_ne (s := x) (by omega)
   have z2 : ¬ x.toList = [] := fun e => by rw [e] at z1; exact absurd z1 (by decide)
   have hline : (R = [] /\ x = y /\ x.size = ll) \/ (ll < x.size /\ (∀ h : ll < x.size, (x[ll]'h).toNat = 10) /\ x.extract 0 ll = y) := by
    rcases hRc with ⟨h1, _⟩ | h1
    ·exact .inl ⟨h1, bytes_eq (by rw [hxLR, hyd, h1, List.append_nil]), by rw [hxl, h1, hll]; simp⟩
    ·right
     have hb : x.data.toList.drop ll = 10 :: outI pre ind ⟨o'.length, false, false⟩ td' := by rw [hxLR, hll, List.drop_left, h1]
     obtain ⟨b1, b2, _⟩ := at_byte hb
     exact ⟨b1, b2, bytes_eq (by rw [ext_sub, hxLR, hyd, hll, List.drop_zero, List.take_left])⟩
   have hbyte : ∀ i, i < ll -> ∀ h : i < x.size, (((x[i]'h).toNat : Int) == 10) = false := fun i hi h => by
    rw [beq_eq_false_iff_ne, get_data]
    intro e
    apply hL10
    have e5 : x.data.toList.getD i 0 = L[i]'(by omega) := by
     rw [hxLR, List.getD_eq_getElem?_getD, List.getElem?_append_left (by omega), List.getElem?_eq_getElem (by omega)]; rfl
    rw [e5] at e
    have e6 : L[i]'(by omega) = 10 := UInt8.toNat_inj.1 (by show (L[i]'(by omega)).toNat = 10; omega)
    rw [<- e6]; exact List.getElem_mem _
   obtain ⟨x', hx'⟩ : ∃ x' : ByteArray, x' = x.extract (min (ll + 1) x.size) x.size := ⟨_, rfl⟩
   have hx'd : x'.data.toList = outI pre ind ⟨o'.length, false, false⟩ td' := by
    rw [hx', ext_end, hxLR]
    rcases hRc with ⟨h1, h2⟩ | h1
    ·rw [h2, h1, List.append_nil]
     exact List.drop_eq_nil_of_le (by rw [hxl, h1]; simp; omega)
    ·have : min (ll + 1) x.size = ll + 1 := by rw [hxl, h1, List.length_cons, <- hll]; omega
     rw [this, <- List.drop_drop, hll, List.drop_left, h1]; rfl
   have hx's : x'.size <= 429603348736 := by rw [hx', ext_size]; omega
   obtain ⟨y2, hy2⟩ : ∃ y2 : ByteArray, y2 = y.extract sp.size y.size := ⟨_, rfl⟩
   have hy2d : y2.data.toList = rep ind D ++ toksOut tl := by rw [hy2, ext_end, hyd, hL, hspl, List.drop_left]
   have hpe : y.extract 0 sp.size = sp := bytes_eq (by rw [ext_sub, hyd, hspl, List.drop_zero, hL, List.take_left, hsp.out])
   have hy2s : y2.size = (rep ind D).length + (toksOut tl).length := by rw [Lib.size_eq, hy2d, List.length_append]
   have hspy : sp.size <= y.size := by rw [hyl, hspl, hll]; exact hLpre
   have htl1 : 1 <= tl.length /\ tl.length <= 2 := by
    rcases e4 with ⟨nm, rfl, _⟩ | ⟨nm, kv, rfl, _⟩ | ⟨nm, kv, rfl, _⟩ <;> exact ⟨by simp, by simp⟩
   have hread : ∀ (yk : ByteArray) (w1 : World), yk.data.toList = toksOut tl -> Old wr w1 -> Calls Tryz.prog 17 #[.string yk, .bool true, .slice none 0 0, .string ⟨#[]⟩] w1 fun e w' => ∃ (lv v : Value), e = .returned (.tuple #[lv, v]) /\ Hid (Old wr w' /\ ∃ gs, RowG w' lv gs /\ gs.map GT.kind = tl.map Tk.kind) := fun yk w1 hyk f => by
    refine (read_yes tl hell hokl hndl (by omega) yk hyk (by rw [Lib.size_eq, hyk]; omega) w1).mono ?_
    rintro e w' ⟨lv, v, rfl, k⟩
    exact ⟨lv, v, rfl, f.old k.out.1, k.out.2⟩
   have hDb : D <= 65536 := by
    rcases hcc with ⟨_, h⟩ | ⟨_, h⟩ <;> omega
   have hol' : o.length <= 65536 := by omega
   have hstrip : ∀ (k : Nat) (z : ByteArray), z.data.toList = rep ind (k + 1) ++ toksOut tl -> si.size <= z.size /\ z.extract 0 si.size = si /\ (z.extract si.size z.size).data.toList = rep ind k ++ toksOut tl := fun k z hz => by
    rw [rep_front, List.append_assoc] at hz
    refine ⟨by rw [Lib.size_eq z, hz, List.length_append, hsil]; omega, bytes_eq (by rw [ext_sub, hz, hsil, List.drop_zero, List.take_left, hsi.out]), by rw [ext_end, hz, hsil, List.drop_left]⟩
   have hstop : ∀ (z : ByteArray), z.data.toList = toksOut tl -> 1 < z.size /\ (∀ h : 0 < z.size, (z[0]'h).toNat = 60) /\ (∀ h : 1 < z.size, (z[1]'h).toNat = c.toNat) /\ z.toList.isEmpty = false /\ ¬ z.toList = [] /\ ((z.extract 0 si.size).toList == si.toList) = false := fun z hz => by
    have hzl : 1 < z.size := by rw [Lib.size_eq, hz, hth]; simp
    have hne := toList_ne (s := z) (by omega)
    refine ⟨hzl, fun h => by rw [get_data, hz, hth]; rfl, fun h => by rw [get_data, hz, hth]; rfl, hne, fun e => by rw [e] at hne; exact absurd hne (by decide), ?_⟩
    rw [beq_eq_false_iff_ne, Go.ByteArray.toList_eq, Go.ByteArray.toList_eq, ext_sub, hz, hsi.out, List.drop_zero, hth]
    cases hi : ind with
    | nil => rw [hi] at hip; exact absurd hip (by decide)
    | cons d dd =>
     have hd := hib.out d (by rw [hi]; simp)
     rw [hsil, hi]
     intro e
     simp at e
     rcases hd with h | h <;> (rw [h] at e; exact absurd e.1 (by decide))
   have hnext : tks = (dn ++ tl) ++ td' /\ o'.length <= (dn ++ tl).length /\ td'.length < gk := by
    refine ⟨by rw [htk, e1]; simp, ?_, ?_⟩
    ·rw [List.length_append]
     rcases e4 with ⟨nm, rfl, h1, h2⟩ | ⟨nm, kv, rfl, h1, h2⟩ | ⟨nm, kv, rfl, h1, h2⟩ <;> (simp; omega)
    ·rw [<- hk, e1, List.length_append]; omega
   have hkinds : (tl.map Tk.kind = [2] /\ o.length = D + 1 /\ o'.length = D) \/ (tl.map Tk.kind = [1, 2] /\ o.length = D /\ o'.length = D) \/ (tl.map Tk.kind = [1] /\ o.length = D /\ o'.length = D + 1) := by
    rcases e4 with ⟨nm, rfl, h1, h2⟩ | ⟨nm, kv, rfl, h1, h2⟩ | ⟨nm, kv, rfl, h1, h2⟩
    ·exact .inl ⟨rfl, h1, h2⟩
    ·exact .inr (.inl ⟨rfl, h1, h2⟩)
    ·exact .inr (.inr ⟨rfl, h1, h2⟩)
   obtain ⟨OL, hOL⟩ : ∃ OL, OL = o.length := ⟨_, rfl⟩
   obtain ⟨OR, hOR⟩ : ∃ OR, OR = o'.length := ⟨_, rfl⟩
   rw [<- hOL] at hcc hkinds hol' ⊢
   rw [<- hOR] at hkinds hnext hx'd
   have m1 : IntKind.i64.wrap ((y.size : Int) + 1) = ((y.size + 1 : Nat) : Int) := by rw [IntWalk.i64_in _ (by omega)]; omega
   have m2 : min ((y.size + 1 : Nat) : Int) (x.size : Int) = ((min (ll + 1) x.size : Nat) : Int) := by rw [hyl]; omega
   have m3 : (((min (ll + 1) x.size : Nat) : Int)) <= (x.size : Int) := by omega
   have m4 : (0 : Int) <= ((min (ll + 1) x.size : Nat) : Int) := by omega
   have m5 : ¬ (y.size : Int) < (sp.size : Int) := by omega
   have m6 : (sp.size : Int) <= (y.size : Int) := by omega
   have m7 : (0 : Int) <= (sp.size : Int) := by omega
   generalize hmm : min (ll + 1) x.size = mm at *
   have hyx : y.size <= x.size := by omega
   replace hpe := zz hpe
   replace hx' := zz hx'
   replace hx'd := zz hx'd
   replace hx's := zz hx's
   replace hy2 := zz hy2
   replace hy2d := zz hy2d
   replace hy2s := zz hy2s
   replace hread := zz hread
   replace hstrip := zz hstrip
   replace hstop := zz hstop
   replace hnext := zz hnext
   replace hkinds := zz hkinds
   replace hcc := zz hcc
   replace hO := zz hO
   replace hbyte := zz hbyte
   replace hline := zz hline
   replace e2 := zz e2
   replace hOL := zz hOL
   replace hOR := zz hOR
   replace hmm := zz hmm
   replace hyl := zz hyl
   replace hll := zz hll
   clear hx hxLR hL10 hRc hxl hLp htL hLpre hyd hy e1 e3 e4 hokl hell hndl helr hokt helt hndt hnest htk hk hL hR hth hol hdl htd hspl hsil
   go_upto_block 2 with fail
   go_cut [8] from 19 to 31 (fun u8 wx => u8 = .string y /\ wx = wr)
   case first =>
    rcases hline.out with ⟨hR0, hxy, hxsz⟩ | ⟨hlt, hb10, hext⟩
    ·replace hR0 := zz hR0
     replace hxy := zz hxy
     go_wp2
     go_loopg [8, 21] ll (fun k u8 u21 wr2 => ∃ i : Nat, u8 = .string x /\ u21 = .int .i64 i /\ i + k = ll /\ wr2 = wr)
     case atStart => exact ⟨0, rfl, rfl, by omega, rfl⟩
     case round =>
      obtain ⟨i, rfl, rfl, hik2, rfl⟩ := hrel
      by_cases hi : i < ll
      ·have hbx := hbyte.out i hi
       have q1 : (i : Int) < (x.size : Int) := by omega
       have q2 : IntKind.i64.wrap ((i : Int) + 1) = ((i + 1 : Nat) : Int) := by rw [IntWalk.i64_in _ (by omega)]; omega
       replace hik2 := zz hik2
       go_wp2
       go_roundg (gk - 1)
       case measure => have := hik2.out; omega
       case rel => exact ⟨i + 1, rfl, rfl, by have := hik2.out; omega, rfl⟩
      ·have q1 : ¬ (i : Int) < (x.size : Int) := by omega
       go_wp2
       go_meet
       case rel => exact ⟨by rw [hxy.out], rfl⟩
    ·replace hext := zz hext
     go_wp2
     go_loopg [8, 21] ll (fun k u8 u21 wr2 => ∃ i : Nat, u8 = .string x /\ u21 = .int .i64 i /\ i + k = ll /\ wr2 = wr)
     case atStart => exact ⟨0, rfl, rfl, by omega, rfl⟩
     case round =>
      obtain ⟨i, rfl, rfl, hik2, rfl⟩ := hrel
      by_cases hi : i < ll
      ·have hbx := hbyte.out i hi
       have q1 : (i : Int) < (x.size : Int) := by omega
       have q2 : IntKind.i64.wrap ((i : Int) + 1) = ((i + 1 : Nat) : Int) := by rw [IntWalk.i64_in _ (by omega)]; omega
       replace hik2 := zz hik2
       go_wp2
       go_roundg (gk - 1)
       case measure => have := hik2.out; omega
       case rel => exact ⟨i + 1, rfl, rfl, by have := hik2.out; omega, rfl⟩
      ·obtain rfl : i = ll := by omega
       have q1 : (i : Int) < (x.size : Int) := by omega
       have q2 : (i : Int) <= (x.size : Int) := by omega
       have q3 : (0 : Int) <= (i : Int) := by omega
       go_wp2
       go_meet
       case rel => exact ⟨by rw [hext.out], rfl⟩
   case rest =>
    obtain ⟨rfl, hw⟩ := hcut
    rw [hw]; clear hw wc
    have hxe := hx'.out.symm
    have hye := hy2.out.symm
    have hpe1 := hpe.out
    have hy2l : y2.size <= 429603348736 := by rw [hy2.out, ext_size]; omega
    go_upto_block 4 with fail
    replace hxe := zz hxe
    replace hye := zz hye
    clear hpe1 m1 m2 m3 m4 m5 m6 m7
    go_cut [8, 10] from 57 to 79 (fun u8 u10 wx => ∃ z : ByteArray, u8 = .string z /\ u10 = .int .i64 D /\ Hid (z.data.toList = toksOut tl /\ z.size <= 429603348736) /\ wx = wr)
    case first =>
     go_wp2
     go_loopg [8, 10] D (fun k u8 u10 wr2 => ∃ (z : ByteArray) (i : Nat), u8 = .string z /\ u10 = .int .i64 i /\ i + k = D /\ z.data.toList = rep ind k ++ toksOut tl /\ z.size <= 429603348736 /\ wr2 = wr)
     case atStart => exact ⟨y2, 0, rfl, rfl, by omega, hy2d.out, hy2l, rfl⟩
     case round =>
      obtain ⟨z, i, rfl, rfl, hik, hz, hzs, rfl⟩ := hrel
      have j2 : (0 : Int) <= (si.size : Int) := by omega
      rcases Nat.eq_zero_or_pos gk with hk0 | hk0
      ·rw [hk0] at hz hik
       have hz0 : z.data.toList = toksOut tl := hz
       obtain ⟨b1, b2, b3, b4, b5, b6⟩ := hstop.out z hz0
       have hiD : i = D := by omega
       replace hz0 := zz hz0
       replace hiD := zz hiD
       clear hz b2 b3 b4 b5 hik
       by_cases hge : si.size <= z.size
       ·have j1 : (si.size : Int) <= (z.size : Int) := by omega
        go_wp2
        go_meet
        case rel => exact ⟨z, rfl, by rw [hiD.out], ⟨hz0.out, hzs⟩, rfl⟩
       ·have j1 : ¬ (si.size : Int) <= (z.size : Int) := by omega
        go_wp2
        go_meet
        case rel => exact ⟨z, rfl, by rw [hiD.out], ⟨hz0.out, hzs⟩, rfl⟩
      ·obtain ⟨k, rfl⟩ : ∃ k, gk = k + 1 := ⟨gk - 1, by omega⟩
       obtain ⟨s1, s2, s3⟩ := hstrip.out k z hz
       obtain ⟨z', hz'⟩ : ∃ z', z' = z.extract si.size z.size := ⟨_, rfl⟩
       rw [<- hz'] at s3
       have hz's : z'.size <= 429603348736 := by rw [hz', ext_size]; omega
       have j1 : (si.size : Int) <= (z.size : Int) := by omega
       have hI : IntKind.i64.wrap ((i : Int) + 1) = ((i + 1 : Nat) : Int) := by rw [IntWalk.i64_in _ (by omega)]; omega
       replace hz' := zz hz'
       replace s3 := zz s3
       replace hik := zz hik
       clear hz
       go_wp2
       go_roundg k
       case measure => omega
       case rel => exact ⟨z', i + 1, by rw [hz'.out], rfl, by have := hik.out; omega, s3.out, hz's, rfl⟩
    case rest =>
     obtain ⟨z, rfl, rfl, hz, hw⟩ := hcut
     rw [hw]; clear hw wc
     obtain ⟨b1, b2, b3, b4, b5, b6⟩ := hstop.out z hz.out.1
     have b1i : (1 : Int) < (z.size : Int) := by omega
     have b0i : (0 : Int) < (z.size : Int) := by omega
     have b0 : 0 < z.size := by omega
     obtain ⟨n, hn⟩ : ∃ n, n = c.toNat := ⟨_, rfl⟩
     rw [<- hn] at b3
     have hcn : (n = 47 /\ OL = D + 1) \/ (((n : Int) == 47) = false /\ ¬ n = 47 /\ OL = D) := by
      rcases hcc.out with ⟨h1, h2⟩ | ⟨h1, h2⟩
      ·exact .inl ⟨by rw [hn, h1]; rfl, h2⟩
      ·have hne : ¬ n = 47 := fun e => h1 (UInt8.toNat_inj.1 (by rw [<- hn]; exact e))
       exact .inr ⟨by rw [beq_eq_false_iff_ne]; omega, hne, h2⟩
     replace hcn := zz hcn
     replace hn := zz hn
     clear b6
     go_upto_if 95 with fail
     go_cut [11] from 96 to 97 (fun u11 wx => u11 = .int .i64 D /\ wx = wr)
     case first =>
      rcases hcn.out with ⟨hn1, hOD⟩ | ⟨hn1, hn2, hOD⟩
      ·have hn3 : ((n : Int) == 47) = true := by rw [beq_iff_eq]; omega
       have hI : IntKind.i64.wrap ((OL : Int) - 1) = (D : Int) := by rw [IntWalk.i64_in _ (by omega)]; omega
       replace hOD := zz hOD
       go_wp2
       go_meet
       case rel => exact ⟨rfl, rfl⟩
      ·replace hOD := zz hOD
       go_wp2
       go_meet
       case rel => exact ⟨by rw [hOD.out], rfl⟩
     case rest =>
      obtain ⟨rfl, hw⟩ := hcut
      rw [hw]; clear hw wc
      have hrd := hread.out z wr hz.out.1 (Fr.refl _ wr)
      replace hrd := zz hrd
      clear b1 b2 b3 b4 b5 b1i b0i b0
      go_upto_region 25 with (go_at_call 17; refine hrd.out.mono ?_; rintro e w2 ⟨lv, v, rfl, k2⟩)
      obtain ⟨hO2, gs, hR2, hgk⟩ := k2.out
      obtain ⟨pa, ca, rfl⟩ := hR2.shape
      obtain ⟨N, hN⟩ : ∃ N, N = gs.length := ⟨_, rfl⟩
      have hfun := dep_fun hDb hkinds.out hgk
      obtain ⟨f, f0, fN, fb, hN12, hf, hf2⟩ := hfun
      rw [<- hN] at fN hN12 ⊢
      have hOo := hO.out.trans hO2 (fun _ h => .inl h)
      replace hO2 := zz hO2
      replace hOo := zz hOo
      replace hR2 := zz hR2
      replace hN := zz hN
      replace hf := zz hf
      replace fN := zz fN
      replace fb := zz fb
      replace f0 := zz f0
      clear k2 hgk
      go_cut [136] from 110 to 136 (fun u136 wx => u136 = .bool false /\ wx = w2)
      case first =>
       rcases hN12 with rfl | rfl
       ·go_wp2
        go_meet
        case rel => exact ⟨rfl, rfl⟩
       ·obtain ⟨h0, h1, q0, q1⟩ := hf2 hN.out.symm
        obtain ⟨g, cap, _, _, hv, _, _, c0, _⟩ := hR2.out.get 0 h0
        obtain ⟨g', cap', _, _, hv', _, _, c6, _⟩ := hR2.out.get 1 h1
        obtain rfl : pa = some ⟨g, 0, none⟩ := by injection hv
        obtain rfl : g = g' := by
         injection hv' with e _ _
         injection e with e
         injection e
        rw [q0] at c0
        rw [q1] at c6
        have d0 : w2.cell? ⟨g, 0, none⟩ = some (.int .i64 1) := c0
        have d6 : w2.cell? ⟨g, 6, none⟩ = some (.int .i64 2) := c6
        clear c0 c6 hv hv'
        go_wp2
        go_meet
        case rel => exact ⟨rfl, rfl⟩
      case rest =>
       obtain ⟨rfl, hw⟩ := hcut
       rw [hw]; clear hw wc hf2
       go_wp2
       go_loopg [7, 139] N (fun k u7 u139 w3 => ∃ j : Nat, u139 = .int .i64 j /\ u7 = .int .i64 (f j) /\ j + k = N /\ Old w2 w3)
       case atStart => exact ⟨0, rfl, by rw [f0.out], by omega, Fr.refl _ _⟩
       case round =>
        obtain ⟨j, rfl, rfl, hjk, hO3⟩ := hrel
        by_cases hj : j < N
        ·have hjl : j < gs.length := by rw [<- hN.out]; exact hj
         obtain ⟨g, cap, pb, cb, hv, _, _, a0, a1, a2, a3, a4, a5⟩ := (hR2.out.old hO3).get j hjl
         obtain rfl : pa = some ⟨g, 0, none⟩ := by injection hv
         have hkj := hf.out j hjl
         have b1 := fb.out j
         have b2 := fb.out (j + 1)
         generalize gs[j]'hjl = T0 at *
         obtain ⟨kind, tsp, tloc, ats, txt, pos⟩ := T0
         dsimp only at hkj a0 a1 a2 a3 a4 a5
         generalize ats.length = M at *
         obtain ⟨F, hF⟩ : ∃ F, F = f j := ⟨_, rfl⟩
         obtain ⟨F', hF'⟩ : ∃ F', F' = f (j + 1) := ⟨_, rfl⟩
         rw [<- hF, <- hF'] at hkj
         rw [<- hF] at b1 ⊢
         rw [<- hF'] at b2
         obtain ⟨R, hR⟩ : ∃ R, R = wr.heap.size := ⟨_, rfl⟩
         obtain ⟨W4, hW4⟩ : ∃ W4, W4 = wr.alloc (.cells #[.int .i64 kind, .string tsp, .string tloc, .slice pb (M : Nat) cb, .string txt, .int .i64 pos] 28) := ⟨_, rfl⟩
         have hb4 : Blk W4 R #[.int .i64 kind, .string tsp, .string tloc, .slice pb (M : Nat) cb, .string txt, .int .i64 pos] 28 := by rw [hW4, hR]; exact Blk.new wr _ _
         have hO4 : Old w2 W4 := by rw [hW4]; exact hO3.alloc _
         have y0 : W4.cell? ⟨R, 0, none⟩ = some (.int .i64 kind) := by rw [hb4.cell]; rfl
         have hj2 : (j : Int) < (N : Int) := by omega
         have hI : IntKind.i64.wrap ((j : Int) + 1) = ((j + 1 : Nat) : Int) := by rw [IntWalk.i64_in _ (by omega)]; omega
         replace hO4 := zz hO4
         replace hjk := zz hjk
         replace hF := zz hF
         replace hF' := zz hF'
         replace hI := zz hI
         clear hb4 hO3 hv hjl
         go_upto_region 30 with fail
         rw [<- hW4, <- hR]
         replace hW4 := zz hW4
         replace hR := zz hR
         clear a0 a1 a2 a3 a4 a5
         have hI2 := hI.out
         rcases hkj with ⟨rfl, hfj⟩ | ⟨rfl, hfj⟩
         ·have hS : IntKind.i64.wrap ((F : Int) + 1) = (F' : Int) := by rw [IntWalk.i64_in _ (by omega)]; omega
          replace hfj := zz hfj
          go_wp2
          go_roundg (gk - 1)
          case measure => have := hjk.out; omega
          case rel => exact ⟨j + 1, rfl, by rw [<- hF'.out], by have := hjk.out; omega, hO4.out⟩
         ·have hS : IntKind.i64.wrap ((F : Int) - 1) = (F' : Int) := by rw [IntWalk.i64_in _ (by omega)]; omega
          replace hfj := zz hfj
          go_wp2
          go_roundg (gk - 1)
          case measure => have := hjk.out; omega
          case rel => exact ⟨j + 1, rfl, by rw [<- hF'.out], by have := hjk.out; omega, hO4.out⟩
        ·have hj2 : ¬ (j : Int) < (N : Int) := by omega
         have hie : j = N := by omega
         have hO5 := hOo.out.trans hO3 (fun _ h => .inl h)
         replace hO5 := zz hO5
         replace hie := zz hie
         clear hO3 hjk
         go_wp2
         go_roundg td'.length
         case measure => exact hnext.out.2.2
         case rel => exact ⟨dn ++ tl, td', o', x', by rw [show (min ((y.size : Int) + 1) (x.size : Int)).toNat = mm from by have := hmm.out; have := hyl.out; omega, hxe.out], by rw [hie.out, fN.out, hOR.out], hnext.out.1, rfl, by rw [<- hOR.out]; exact hnext.out.2.1, by rw [<- hOR.out]; exact hx'd.out, hx's.out, e2.out, hO5.out⟩
end Go.Proofs.YtepbbahdhhjibaaGreatDoor
