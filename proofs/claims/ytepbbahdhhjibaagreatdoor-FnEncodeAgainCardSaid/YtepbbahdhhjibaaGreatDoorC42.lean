/- own text -/
import Derived.Test.YtepbbahdhhjibaaGreatDoorC41
namespace Go.Proofs.YtepbbahdhhjibaaGreatDoor
set_option linter.unusedSimpArgs false
set_option linter.unusedVariables false
set_option maxHeartbeats 200000
set_option maxRecDepth 512
section
open Go.RowKit
structure DocPre (items : List Item) (o : List (List Nat)) : Prop where
 go : ∀ l, docOk o l -> (∀ u, items.getLast? = some u -> u.isTx = true -> ∀ j m, l = j :: m -> j.isTx = false) -> docOk [] (items ++ l)
theorem DocPre.nil : DocPre [] [] := ⟨fun l h _ => by simpa using h⟩
theorem DocPre.snoc {items : List Item} {o o' : List (List Nat)} (h : DocPre items o) {i : Item} (hadj : i.isTx = true -> ∀ u, items.getLast? = some u -> u.isTx = false)
  (hs : ∀ l, docOk o' l -> (i.isTx = true -> ∀ j m, l = j :: m -> j.isTx = false) -> docOk o (i :: l)) : DocPre (items ++ [i]) o' := by
 refine ⟨fun l hl ha => ?_⟩
 rw [List.append_assoc, List.singleton_append]
 refine h.go (i :: l) (hs l hl (fun hx => ha i (by simp) hx)) (fun u hu hut j m e => ?_)
 injection e with e1 e2
 subst e1
 cases hi : i.isTx with
 | false => rfl
 | true => have := hadj hi u hu; rw [hut] at this; cases this
theorem DocPre.fin {items : List Item} (h : DocPre items []) : docOk [] items := by
 have := h.go [] rfl (fun _ _ _ _ _ e => by cases e)
 simpa using this
def xmlnsL : List UInt8 := [120, 109, 108, 110, 115]
structure PlG (g : GT) : Prop where
 sp : g.sp.size = 0
 dir : g.kind ≠ 6
 res : g.kind = 5 -> resF g.loc.data.toList = false
 at_ : ∀ x ∈ g.ats, x.1.size = 0 /\ (x.2.1.toList == xmlnsL) = false
def opnOf (o : List (List Nat)) : List ByteArray := (o.map fun nm => colon ⟨#[]⟩ (nameB nm)).reverse
theorem opnOf_cons (nm : List Nat) (o : List (List Nat)) : opnOf (nm :: o) = opnOf o ++ [colon ⟨#[]⟩ (nameB nm)] := by simp [opnOf]
def OkO (o : List (List Nat)) : Prop := ∀ nm ∈ o, NameOk nm /\ (nb nm == xmlnsL) = false
structure RdI (s : ByteArray) (a : Nat) (gs : List GT) (opn : List ByteArray) : Prop where
 ex : (∀ g ∈ gs, PlG g) -> ∃ items o, s.data.toList.take a = srcI items /\ DocPre items o /\ opn = opnOf o /\ OkO o /\ gs.map GT.er = (toksI items).map gtOf /\ ∀ u, items.getLast? = some u -> u.isTx = true -> (s.data.toList.drop a = [] \/ ∃ t, s.data.toList.drop a = 60 :: t)
theorem srcI_snoc (items : List Item) (i : Item) : srcI (items ++ [i]) = srcI items ++ i.src := by simp [srcI]
theorem toksI_snoc (items : List Item) (i : Item) : toksI (items ++ [i]) = toksI items ++ i.toks := by simp [toksI]
theorem take_seg {l seg rest : List UInt8} {a a' : Nat} (h : l.drop a = seg ++ rest) (ha : a' = a + seg.length) (hle : a <= l.length) : l.take a' = l.take a ++ seg /\ l.drop a' = rest := by
 have e : l = l.take a ++ (seg ++ rest) := by rw [<- h, List.take_append_drop]
 have hl : (l.take a).length = a := by simp; omega
 constructor
 ·conv => lhs; rw [e]
  rw [List.take_append, List.take_of_length_le (by omega), hl, show a' - a = seg.length by omega, List.take_left]
 ·conv => lhs; rw [e]
  rw [List.drop_append, List.drop_of_length_le (by omega), hl, show a' - a = seg.length by omega, List.nil_append, List.drop_left]
section
variable {s : ByteArray} {a a' : Nat} {gs : List GT} {opn : List ByteArray}
theorem RdI.step (h : RdI s a gs opn) (haz : a <= s.size) (ts : List GT) (opn' : List ByteArray)
  (hs : (∀ g ∈ ts, PlG g) -> ∀ o, opn = opnOf o -> OkO o -> ∃ i o', s.data.toList.drop a = i.src ++ s.data.toList.drop a' /\ a' = a + i.src.length /\ opn' = opnOf o' /\ OkO o' /\ ts.map GT.er = i.toks.map gtOf /\
   (i.isTx = true -> (∃ c t, s.data.toList.drop a = c :: t /\ c ≠ 60) /\ (s.data.toList.drop a' = [] \/ ∃ t, s.data.toList.drop a' = 60 :: t)) /\
   ∀ l, docOk o' l -> (i.isTx = true -> ∀ j m, l = j :: m -> j.isTx = false) -> docOk o (i :: l)) : RdI s a' (gs ++ ts) opn' := by
 refine ⟨fun hp => ?_⟩
 obtain ⟨items, o, h1, h2, h3, hok, h4, h5⟩ := h.ex (fun g hg => hp g (List.mem_append.2 (.inl hg)))
 obtain ⟨i, o', k1, k2, k3, hok', k4, k5, k6⟩ := hs (fun g hg => hp g (List.mem_append.2 (.inr hg))) o h3 hok
 have hsz : a <= s.data.toList.length := by rw [<- Lib.size_eq]; exact haz
 obtain ⟨t1, t2⟩ := take_seg k1 k2 hsz
 refine ⟨items ++ [i], o', by rw [t1, srcI_snoc, h1], h2.snoc (fun hi u hu => ?_) k6, k3, hok', by rw [List.map_append, toksI_snoc, List.map_append, h4, k4], fun u hu hut => ?_⟩
 ·cases hut : u.isTx with
  | false => rfl
  | true =>
   obtain ⟨⟨c, t, e1, e2⟩, _⟩ := k5 hi
   rcases h5 u hu hut with h6 | ⟨t', h6⟩
   ·rw [h6] at e1; cases e1
   ·rw [h6] at e1; injection e1 with e3 _; exact absurd e3.symm e2
 ·have hu' : i = u := by simpa using hu
  subst hu'
  exact (k5 hut).2
theorem RdI.tx (h : RdI s a gs opn) (haz : a <= s.size) {els : List El} {rs : List Nat} {rest : List UInt8} {p : Int} (hL : s.data.toList.drop a = srcs els ++ rest) (hr : rest = [] \/ ∃ t, rest = 60 :: t) (hne : els ≠ []) (hT : TxS [60, 38] true true els rs rest) {c0 : UInt8} {t0 : List UInt8} (h0 : s.data.toList.drop a = c0 :: t0) (hc : c0 ≠ 60) :
  RdI s (a + (srcs els).length) (gs ++ [⟨3, ⟨#[]⟩, ⟨#[]⟩, [], nameB rs, p⟩]) opn := by
 have hg := at_go hL
 refine h.step haz _ _ fun _ o ho hok => ⟨.tx els rs, o, by rw [hg]; exact hL, rfl, ho, hok, rfl, fun _ => ⟨⟨c0, t0, h0, hc⟩, by rw [hg]; exact hr⟩, fun l hl ha => ⟨⟨hT.ok, hne, hT.out, hT.ch⟩, ha, hl⟩⟩
theorem RdI.cd (h : RdI s a gs opn) (haz : a <= s.size) {els : List El} {rs : List Nat} {rest : List UInt8} {p : Int} {b : Nat} (hL : s.data.toList.drop a = 60 :: 33 :: 91 :: 67 :: 68 :: 65 :: 84 :: 65 :: 91 :: (srcs els ++ 62 :: rest)) (hi : Item.ok (.cd els rs)) (hb : b = a + 9 + (srcs els).length + 1) :
  RdI s b (gs ++ [⟨3, ⟨#[]⟩, ⟨#[]⟩, [], nameB rs, p⟩]) opn := by
 have hL' : s.data.toList.drop a = (Item.cd els rs).src ++ rest := by rw [hL]; simp [Item.src]
 have hb' : b = a + (Item.cd els rs).src.length := by rw [hb]; simp [Item.src]; omega
 have hg := at_go hL'
 rw [<- hb'] at hg
 refine h.step haz _ _ fun _ o ho hok => ⟨.cd els rs, o, by rw [hg]; exact hL', hb', ho, hok, rfl, fun e => (by cases e), fun l hl ha => ⟨hi, ha, hl⟩⟩
theorem RdI.cm (h : RdI s a gs opn) (haz : a <= s.size) {d rest : List UInt8} {p : Int} {b : Nat} (hL : s.data.toList.drop a = 60 :: 33 :: 45 :: 45 :: (d ++ 45 :: 45 :: 62 :: rest)) (hi : pathCM 0 0 (d ++ [45, 45, 62])) (hb : b = a + 4 + d.length + 3) :
  RdI s b (gs ++ [⟨4, ⟨#[]⟩, ⟨#[]⟩, [], ⟨d.toArray⟩, p⟩]) opn := by
 have hL' : s.data.toList.drop a = (Item.cm d).src ++ rest := by rw [hL]; simp [Item.src]
 have hb' : b = a + (Item.cm d).src.length := by rw [hb]; simp [Item.src]; omega
 have hg := at_go hL'
 rw [<- hb'] at hg
 refine h.step haz _ _ fun _ o ho hok => ⟨.cm d, o, by rw [hg]; exact hL', hb', ho, hok, rfl, fun e => (by cases e), fun l hl ha => ⟨hi, ha, hl⟩⟩
theorem RdI.pi (h : RdI s a gs opn) (haz : a <= s.size) {nm : List Nat} {ws d rest : List UInt8} {p : Int} {b : Nat} (hL : s.data.toList.drop a = 60 :: 63 :: (nb nm ++ (ws ++ (d ++ 63 :: 62 :: rest)))) (hn : NameOk nm) (hw : ∀ b ∈ ws, isWs b = true) (hd : d = [] \/ ws ≠ []) (hc : ∀ c t, d = c :: t -> isWs c = false) (hi : pathPI 0 (d ++ [63, 62])) (hb : b = a + 2 + (nb nm).length + ws.length + d.length + 2) :
  RdI s b (gs ++ [⟨5, ⟨#[]⟩, nameB nm, [], ⟨d.toArray⟩, p⟩]) opn := by
 have hL' : s.data.toList.drop a = (Item.pi nm ws d).src ++ rest := by rw [hL]; simp [Item.src]
 have hb' : b = a + (Item.pi nm ws d).src.length := by rw [hb]; simp [Item.src]; omega
 have hg := at_go hL'
 rw [<- hb'] at hg
 refine h.step haz _ _ fun hp o ho hok => ⟨.pi nm ws d, o, by rw [hg]; exact hL', hb', ho, hok, rfl, fun e => (by cases e), fun l hl ha => ⟨⟨hn, hw, hd, hc, hi, fun e => ?_⟩, ha, hl⟩⟩
 have hr := (hp _ (List.mem_singleton.2 rfl)).res rfl
 have e2 : (nameB nm).data.toList = [120, 109, 108] := e
 rw [show (⟨5, ⟨#[]⟩, nameB nm, [], ⟨d.toArray⟩, p⟩ : GT).loc = nameB nm from rfl, e2, resF_xml] at hr
 cases hr
theorem RdI.dt (h : RdI s a gs opn) {g : GT} (hk : g.kind = 6) {b : Nat} : RdI s b (gs ++ [g]) opn := ⟨fun hp => absurd hk (hp g (by simp)).dir⟩
theorem opnOf_snoc {o : List (List Nat)} {opn' : List ByteArray} {x : ByteArray} (h : opn' ++ [x] = opnOf o) : ∃ nm o', o = nm :: o' /\ opn' = opnOf o' /\ x = colon ⟨#[]⟩ (nameB nm) := by
 cases o with
 | nil => simp [opnOf] at h
 | cons nm o =>
  rw [opnOf_cons] at h
  have := List.append_inj' h (by simp)
  exact ⟨nm, o, rfl, this.1, by simpa using this.2⟩
theorem colon_inj {a b : ByteArray} (h : colon ⟨#[]⟩ a = colon ⟨#[]⟩ b) : a = b := by
 apply bytes_eq
 have := congrArg (fun x : ByteArray => x.data.toList) h
 simpa [colon] using this
theorem RdI.en (h : RdI s a gs opn) (haz : a <= s.size) {nm : List Nat} {ws rest : List UInt8} {p : Int} {b : Nat} {r : ByteArray} {opn' : List ByteArray} (hop : opn = opn' ++ [colon ⟨#[]⟩ (nameB nm)]) (hL : s.data.toList.drop a = 60 :: 47 :: (nb nm ++ (ws ++ 62 :: rest))) (hw : ∀ b ∈ ws, isWs b = true) (hb : b = a + 2 + (nb nm).length + ws.length + 1) :
  RdI s b (gs ++ [⟨2, r, nameB nm, [], ⟨#[]⟩, p⟩]) opn' := by
 have hL' : s.data.toList.drop a = (Item.en nm ws).src ++ rest := by rw [hL]; simp [Item.src]
 have hb' : b = a + (Item.en nm ws).src.length := by rw [hb]; simp [Item.src]; omega
 have hg := at_go hL'
 rw [<- hb'] at hg
 refine h.step haz _ _ fun hp o ho hok => ?_
 obtain ⟨nm', o', rfl, ho', hc⟩ := opnOf_snoc (hop.symm.trans ho)
 have hcn := colon_inj hc
 have hnb : nb nm = nb nm' := by
  have := congrArg (fun x : ByteArray => x.data.toList) hcn
  simpa [nameB] using this
 have hsrc : (Item.en nm ws).src = (Item.en nm' ws).src := by simp [Item.src, hnb]
 have hrs : r = ⟨#[]⟩ := by
  have := (hp _ (List.mem_singleton.2 rfl)).sp
  apply bytes_eq
  have h2 : r.size = r.data.toList.length := Lib.size_eq r
  have h3 : r.size = 0 := this
  exact List.length_eq_zero_iff.1 (by omega)
 have h0 := hok nm' (by simp)
 refine ⟨.en nm' ws, o', by rw [hg, <- hsrc]; exact hL', by rw [<- hsrc]; exact hb', ho', fun x hx => hok x (by simp [hx]), ?_, fun e => (by cases e), fun l hl ha => ⟨⟨h0.1, h0.2, hw⟩, ha, o', rfl, hl⟩⟩
 simp [GT.er, Item.toks, gtOf, hcn, hrs]
end
end
section
open Go.RowKit
structure AtsR (ats ats' : List (ByteArray × ByteArray × ByteArray)) : Prop where
 len : ats'.length = ats.length
 ex : ∀ (j : Nat) (y : ByteArray × ByteArray × ByteArray), ats'[j]? = some y -> ∃ x : ByteArray × ByteArray × ByteArray, ats[j]? = some x /\ (y.1.size = 0 -> x.1.size = 0) /\ y.2 = x.2
theorem AtsR.refl (ats : List (ByteArray × ByteArray × ByteArray)) : AtsR ats ats := ⟨rfl, fun _ y h => ⟨y, h, fun h => h, rfl⟩⟩
theorem size_nil {r : ByteArray} (h : r.size = 0) : r = ⟨#[]⟩ := by
 apply bytes_eq
 have h2 : r.size = r.data.toList.length := Lib.size_eq r
 exact List.length_eq_zero_iff.1 (by omega)
theorem AtsR.eq {ats ats' : List (ByteArray × ByteArray × ByteArray)} (h : AtsR ats ats') (hp : ∀ x ∈ ats', x.1.size = 0) : ats' = ats := by
 apply List.ext_getElem?
 intro j
 cases hj : ats'[j]? with
 | none =>
  have h1 := List.getElem?_eq_none_iff.1 hj
  exact (List.getElem?_eq_none (by have := h.len; omega)).symm
 | some y =>
  obtain ⟨x, h1, h2, h3⟩ := h.ex j y hj
  have hy := hp y (List.mem_of_getElem? hj)
  have e1 := size_nil hy
  have e2 := size_nil (h2 hy)
  rw [h1]
  congr 1
  exact Prod.ext (e1.trans e2.symm) h3
def atT (a : At) : ByteArray × ByteArray × ByteArray := (⟨#[]⟩, nameB a.nm, nameB a.rs)
def StSrc (s : ByteArray) (a b : Nat) (p l : ByteArray) (ats : List (ByteArray × ByteArray × ByteArray)) (emp : Bool) : Prop :=
 p.size = 0 -> (∀ x ∈ ats, x.1.size = 0) -> p = ⟨#[]⟩ /\ ∃ (nm : List Nat) (As : List At) (ws : List UInt8), NameOk nm /\ l = nameB nm /\ ats = As.map atT /\ (∀ a ∈ As, a.ok /\ a.ws0 ≠ []) /\ (∀ b ∈ ws, isWs b = true) /\
  s.data.toList.drop a = (Item.st nm As ws emp).src ++ s.data.toList.drop b /\ b = a + (Item.st nm As ws emp).src.length
theorem RdI.st {s : ByteArray} {a b : Nat} {gs : List GT} {opn : List ByteArray} (h : RdI s a gs opn) (haz : a <= s.size) {p l r : ByteArray} {ats ats' : List (ByteArray × ByteArray × ByteArray)} {emp : Bool} {ts : List GT} {opn' : List ByteArray} {pos : Int}
  (hr : r.size = 0 -> p.size = 0) (hat : AtsR ats ats') (hx : p.size = 0 -> (l.toList == xmlnsL) = false) (hsrc : StSrc s a b p l ats emp)
  (hts : (emp = false /\ ts = [⟨1, r, l, ats', ⟨#[]⟩, pos⟩] /\ opn' = opn ++ [colon p l]) \/ (emp = true /\ opn' = opn /\ ∃ r2, (r2.size = 0 -> p.size = 0) /\ ts = [⟨1, r, l, ats', ⟨#[]⟩, pos⟩, ⟨2, r2, l, [], ⟨#[]⟩, pos⟩])) : RdI s b (gs ++ ts) opn' := by
 refine h.step haz _ _ fun hp o ho hok => ?_
 have hg1 : PlG ⟨1, r, l, ats', ⟨#[]⟩, pos⟩ := by
  rcases hts with ⟨_, rfl, _⟩ | ⟨_, _, r2, _, rfl⟩ <;> exact hp _ (by simp)
 have hp0 := hr hg1.sp
 have hr0 := size_nil hg1.sp
 have hat' : ats' = ats := hat.eq (fun x hx => (hg1.at_ x hx).1)
 have hx0 := hx hp0
 obtain ⟨rfl, nm, As, ws, h1, rfl, h3, h4, h5, h6, h7⟩ := hsrc hp0 (fun x hx => (hg1.at_ x (by rw [hat']; exact hx)).1)
 have hnx : (nb nm == xmlnsL) = false := by rw [Go.ByteArray.toList_eq] at hx0; exact hx0
 have hAx : ∀ A ∈ As, (nb A.nm == xmlnsL) = false := fun A hA => by
  have := (hg1.at_ (atT A) (by rw [hat', h3]; exact List.mem_map_of_mem hA)).2
  rw [Go.ByteArray.toList_eq] at this
  exact this
 have hi : (Item.st nm As ws emp).ok := ⟨h1, hnx, fun A hA => ⟨(h4 A hA).1, (h4 A hA).2, hAx A hA⟩, h5⟩
 have hmap : ats' = (As.map At.kv).map fun x => ((⟨#[]⟩ : ByteArray), nameB x.1, nameB x.2) := by
  rw [hat', h3, List.map_map]; rfl
 rcases hts with ⟨rfl, rfl, rfl⟩ | ⟨rfl, rfl, r2, hr2, rfl⟩
 ·refine ⟨.st nm As ws false, nm :: o, h6, h7, by rw [opnOf_cons, ho], fun x hx => ?_, ?_, fun e => (by cases e), fun l hl ha => ⟨hi, ha, hl⟩⟩
  ·rcases List.mem_cons.1 hx with rfl | hx
   ·exact ⟨h1, hnx⟩
   ·exact hok x hx
  ·have hz : r = ⟨#[]⟩ := hr0
   simp [GT.er, Item.toks, gtOf, hz, hmap]
 ·refine ⟨.st nm As ws true, o, h6, h7, ho, hok, ?_, fun e => (by cases e), fun l hl ha => ⟨hi, ha, hl⟩⟩
  have hz : r = ⟨#[]⟩ := hr0
  have hz2 : r2 = ⟨#[]⟩ := size_nil (hp ⟨2, r2, nameB nm, [], ⟨#[]⟩, pos⟩ (by simp)).sp
  simp [GT.er, Item.toks, gtOf, hz, hz2, hmap]
end
end Go.Proofs.YtepbbahdhhjibaaGreatDoor
