/- own text -/
import Derived.Test.YtepbbahdhhjibaaGreatDoorD26
namespace Go.Proofs.YtepbbahdhhjibaaGreatDoor
set_option linter.unusedSimpArgs false
set_option linter.unusedVariables false
set_option maxHeartbeats 200000
set_option maxRecDepth 512
theorem nb_le_esc (nl : Bool) (rs : List Nat) : (nb rs).length <= (escL nl rs).length := by
 induction rs with
 | nil => exact Nat.le_refl _
 | cons r rs ih =>
  have e2 : escL nl (r :: rs) = esc nl r ++ escL nl rs := rfl
  rw [e2, nb_cons, List.length_append, List.length_append]
  have : (u8 r).length <= (esc nl r).length := by
   unfold esc
   split
   ·rename_i h; subst h; decide
   split
   ·rename_i h; subst h; decide
   split
   ·rename_i h; subst h; decide
   split
   ·rename_i h; subst h; decide
   split
   ·rename_i h; subst h; decide
   split
   ·rename_i h; subst h; decide
   split
   ·rename_i h; subst h; cases nl <;> decide
   split
   ·rename_i h; subst h; decide
   ·exact Nat.le_refl _
  omega
theorem rep_front (x : List UInt8) : ∀ n, rep x (n + 1) = x ++ rep x n := by
 intro n
 induction n with
 | zero => simp [rep]
 | succ n ih =>
  show rep x (n + 1) ++ x = x ++ (rep x n ++ x)
  rw [ih, List.append_assoc]
theorem rep_mem {x : List UInt8} {c : UInt8} : ∀ {n}, c ∈ rep x n -> c ∈ x := by
 intro n
 induction n with
 | zero => intro h; cases h
 | succ n ih => intro h; exact (List.mem_append.1 h).elim ih id
def Tk.el : Tk -> Bool
 | .st _ _ => true
 | .en _ => true
 | _ => false
def Iv.next (i : Iv) : Tk -> Iv
 | .st _ _ => ⟨i.d + 1, true, true⟩
 | .en _ => ⟨i.d - 1, false, if i.inn then i.nl else true⟩
 | _ => i
def Iv.lead (pre ind : List UInt8) (i : Iv) : Tk -> List UInt8
 | .st _ _ => Go.Proofs.YtepbbahdhhjibaaGreatDoor.lead pre ind i.nl i.d
 | .en _ => if i.inn then [] else Go.Proofs.YtepbbahdhhjibaaGreatDoor.lead pre ind i.nl (i.d - 1)
 | _ => []
def outI (pre ind : List UInt8) : Iv -> List Tk -> List UInt8
 | _, [] => []
 | i, t :: l => i.lead pre ind t ++ (tkOut t ++ outI pre ind (i.next t) l)
def stI : Iv -> List Tk -> Iv
 | i, [] => i
 | i, t :: l => stI (i.next t) l
theorem outI_snoc (pre ind : List UInt8) : ∀ (l : List Tk) (i : Iv) (t : Tk), outI pre ind i (l ++ [t]) = outI pre ind i l ++ ((stI i l).lead pre ind t ++ tkOut t) := by
 intro l
 induction l with
 | nil => intro i t; simp [outI, stI]
 | cons x l ih => intro i t; simp [outI, stI, ih]
theorem stI_snoc : ∀ (l : List Tk) (i : Iv) (t : Tk), stI i (l ++ [t]) = (stI i l).next t := by
 intro l
 induction l with
 | nil => intro i t; rfl
 | cons x l ih => intro i t; exact ih _ t
def blankL (l : List UInt8) : Prop := ∀ c ∈ l, c = 32 \/ c = 9
def wsL (l : List UInt8) : Prop := ∀ c ∈ l, c = 32 \/ c = 9 \/ c = 10
theorem lead_ws {pre ind : List UInt8} (hp : blankL pre) (hi : blankL ind) (nl : Bool) (d : Nat) : wsL (lead pre ind nl d) := by
 intro c hc
 unfold lead at hc
 rcases List.mem_append.1 hc with h | h
 ·cases nl
  ·cases h
  ·simp at h; exact .inr (.inr h)
 ·rcases List.mem_append.1 h with h | h
  ·exact (hp c h).imp id .inl
  ·exact (hi c (rep_mem h)).imp id .inl
theorem ivlead_ws {pre ind : List UInt8} (hp : blankL pre) (hi : blankL ind) (i : Iv) (t : Tk) : wsL (i.lead pre ind t) := by
 have hn : wsL [] := fun c h => (by cases h)
 cases t with
 | st nm kv => exact lead_ws hp hi _ _
 | en nm =>
  show wsL (if i.inn then [] else lead pre ind i.nl (i.d - 1))
  cases i.inn
  ·exact lead_ws hp hi _ _
  ·exact hn
 | tx rs => exact hn
 | cm d => exact hn
 | pi nm d => exact hn
theorem ws_nat {c : UInt8} (h : c = 32 \/ c = 9 \/ c = 10) : u8 c.toNat = [c] := by
 rcases h with rfl | rfl | rfl <;> rfl
theorem nb_ws : ∀ {l : List UInt8}, wsL l -> nb (l.map UInt8.toNat) = l := by
 intro l
 induction l with
 | nil => intro _; rfl
 | cons c l ih =>
  intro h
  rw [List.map_cons, nb_cons, ws_nat (h c (by simp)), ih (fun x hx => h x (by simp [hx]))]
  rfl
theorem isCh_ws {l : List UInt8} (h : wsL l) : ∀ r ∈ l.map UInt8.toNat, isCh r = true := by
 intro r hr
 obtain ⟨c, hc, rfl⟩ := List.mem_map.1 hr
 rcases h c hc with rfl | rfl | rfl <;> decide
def wsIt (l : List UInt8) : List Item := if l = [] then [] else [.tx (l.map .by) (l.map UInt8.toNat)]
def wsTk (l : List UInt8) : List Tk := if l = [] then [] else [.tx (l.map UInt8.toNat)]
def itemsI (pre ind : List UInt8) : Iv -> List Tk -> List Item
 | _, [] => []
 | i, t :: l => wsIt (i.lead pre ind t) ++ itemOf t :: itemsI pre ind (i.next t) l
def toksW (pre ind : List UInt8) : Iv -> List Tk -> List Tk
 | _, [] => []
 | i, t :: l => wsTk (i.lead pre ind t) ++ t :: toksW pre ind (i.next t) l
theorem srcI_app (a b : List Item) : srcI (a ++ b) = srcI a ++ srcI b := by simp [srcI]
theorem toksI_app (a b : List Item) : toksI (a ++ b) = toksI a ++ toksI b := by simp [toksI]
theorem wsIt_src (l : List UInt8) : srcI (wsIt l) = l := by
 unfold wsIt
 split
 ·rename_i h; rw [h]; rfl
 ·show srcs (l.map .by) ++ [] = l
  rw [srcs_by, List.append_nil]
theorem wsIt_toks (l : List UInt8) : toksI (wsIt l) = wsTk l := by
 unfold wsIt wsTk
 split <;> rfl
theorem itemsI_src (pre ind : List UInt8) : ∀ (l : List Tk) (i : Iv), srcI (itemsI pre ind i l) = outI pre ind i l := by
 intro l
 induction l with
 | nil => intro i; rfl
 | cons t l ih =>
  intro i
  show srcI (wsIt _ ++ itemOf t :: itemsI pre ind (i.next t) l) = _
  rw [srcI_app, wsIt_src, srcI_cons, itemOf_src, ih]
  rfl
theorem itemsI_toks (pre ind : List UInt8) : ∀ (l : List Tk) (i : Iv), toksI (itemsI pre ind i l) = toksW pre ind i l := by
 intro l
 induction l with
 | nil => intro i; rfl
 | cons t l ih =>
  intro i
  have e : toksI (itemOf t :: itemsI pre ind (i.next t) l) = (itemOf t).toks ++ toksI (itemsI pre ind (i.next t) l) := rfl
  show toksI (wsIt _ ++ itemOf t :: itemsI pre ind (i.next t) l) = _
  rw [toksI_app, wsIt_toks, e, itemOf_toks, ih]
  rfl
theorem wsTk_len (l : List UInt8) : (wsTk l).length <= 1 := by unfold wsTk; split <;> simp
theorem toksW_len (pre ind : List UInt8) : ∀ (l : List Tk) (i : Iv), (toksW pre ind i l).length <= 2 * l.length := by
 intro l
 induction l with
 | nil => intro i; exact Nat.le_refl _
 | cons t l ih =>
  intro i
  have h1 := wsTk_len (i.lead pre ind t)
  have h2 := ih (i.next t)
  show (wsTk _ ++ t :: toksW pre ind (i.next t) l).length <= _
  rw [List.length_append, List.length_cons, List.length_cons]
  omega
theorem ws_item {l : List UInt8} (h : wsL l) (hne : l ≠ []) : (Item.tx (l.map .by) (l.map UInt8.toNat)).ok := by
 have h13 : ∀ c ∈ l, c ≠ 13 := fun c hc => by rcases h c hc with rfl | rfl | rfl <;> decide
 refine ⟨?_, ?_, ?_, isCh_ws h⟩
 ·have := by_run (q := [60, 38]) (chk := true) (refs := true) l 0 0 [] (fun c hc => ?_) (by decide) (fun _ _ _ => trivial)
  ·simpa using this
  ·rcases h c hc with rfl | rfl | rfl <;> decide
 ·intro e; exact hne (List.map_eq_nil_iff.1 e)
 ·have := by_out l 0 [] [] h13 (by decide) (fun _ _ => rfl)
  rw [nb_ws h]
  simpa using this
theorem el_noTx {t : Tk} (h : t.el = true) : (itemOf t).isTx = false := by cases t <;> first | rfl | cases h
theorem el_ne {t : Tk} (h : t.el = true) : t ≠ .tx [] := by rintro rfl; cases h
theorem docI {pre ind : List UInt8} (hp : blankL pre) (hi : blankL ind) : ∀ (l : List Tk) (i : Iv) (o : List (List Nat)), (∀ t ∈ l, t.el = true) -> (∀ t ∈ l, tkOk t) -> nestL o l = some [] -> docOk o (itemsI pre ind i l) := by
 intro l
 induction l with
 | nil => intro i o _ _ h; exact Option.some.inj h
 | cons t l ih =>
  intro i o hel hok hn
  have hk := hok t (by simp)
  have he := hel t (by simp)
  have ih' := fun j o => ih j o (fun x hx => hel x (by simp [hx])) (fun x hx => hok x (by simp [hx]))
  have hmain : docOk o (itemOf t :: itemsI pre ind (i.next t) l) := by
   refine ⟨itemOf_ok hk (el_ne he), fun h => (by rw [el_noTx he] at h; cases h), ?_⟩
   cases t with
   | st nm kv => exact ih' _ _ hn
   | en nm =>
    cases o with
    | nil => simp [nestL, nestS] at hn
    | cons x o =>
     by_cases hx : x = nm
     ·subst hx
      simp [nestL, nestS] at hn
      exact ⟨o, rfl, ih' _ _ hn⟩
     ·simp [nestL, nestS, hx] at hn
   | tx rs => cases he
   | cm d => cases he
   | pi nm d => cases he
  have hw := ivlead_ws hp hi i t
  show docOk o (wsIt (i.lead pre ind t) ++ itemOf t :: itemsI pre ind (i.next t) l)
  generalize i.lead pre ind t = q at hw
  unfold wsIt
  split
  ·exact hmain
  ·rename_i hq
   refine ⟨ws_item hw hq, fun _ j m e => ?_, hmain⟩
   injection e with e1 e2
   rw [<- e1]; exact el_noTx he
theorem lead_len (pre ind : List UInt8) (nl : Bool) (d : Nat) : (lead pre ind nl d).length <= 1 + pre.length + d * ind.length := by
 unfold lead
 rw [List.length_append, List.length_append, rep_len]
 cases nl <;> simp <;> omega
theorem ivlead_len (pre ind : List UInt8) (i : Iv) (t : Tk) : (i.lead pre ind t).length <= 1 + pre.length + i.d * ind.length := by
 cases t with
 | st nm kv => exact lead_len _ _ _ _
 | en nm =>
  show (if i.inn then [] else lead pre ind i.nl (i.d - 1)).length <= _
  cases i.inn
  ·have h1 := lead_len pre ind i.nl (i.d - 1)
   have h2 : (i.d - 1) * ind.length <= i.d * ind.length := Nat.mul_le_mul_right _ (by omega)
   simp only [Bool.false_eq_true, if_false]
   omega
  ·simp
 | tx rs => exact Nat.zero_le _
 | cm d => exact Nat.zero_le _
 | pi nm d => exact Nat.zero_le _
theorem outI_len (pre ind : List UInt8) (D : Nat) : ∀ (l : List Tk) (i : Iv), i.d + l.length <= D -> (outI pre ind i l).length <= l.length * (1 + pre.length + D * ind.length) + (toksOut l).length := by
 intro l
 induction l with
 | nil => intro i _; simp [outI]
 | cons t l ih =>
  intro i h
  rw [List.length_cons] at h
  have hd : (i.next t).d <= i.d + 1 := by
   cases t <;> simp [Iv.next] <;> omega
  have h1 := ih (i.next t) (by omega)
  have h2 := ivlead_len pre ind i t
  have h3 : i.d * ind.length <= D * ind.length := Nat.mul_le_mul_right _ (by omega)
  show (_ ++ (tkOut t ++ outI pre ind (i.next t) l)).length <= _
  rw [toksOut_cons, List.length_append, List.length_append, List.length_append, List.length_cons, Nat.succ_mul]
  omega
theorem vals_le (kv : List (List Nat × List Nat)) : (kv.flatMap fun x => nb x.2).length <= (attrsOut kv).length := by
 induction kv with
 | nil => exact Nat.le_refl _
 | cons x kv ih =>
  have e : attrsOut (x :: kv) = attrOut x ++ attrsOut kv := rfl
  rw [e, List.flatMap_cons, List.length_append, List.length_append]
  have := nb_le_esc true x.2
  have e2 : (attrOut x).length = (nb x.1).length + (escL true x.2).length + 4 := by simp [attrOut]; omega
  omega
theorem kv_le (kv : List (List Nat × List Nat)) : kv.length <= (attrsOut kv).length := by
 induction kv with
 | nil => exact Nat.le_refl _
 | cons x kv ih =>
  have e : attrsOut (x :: kv) = attrOut x ++ attrsOut kv := rfl
  rw [e, List.length_append, List.length_cons]
  have e2 : (attrOut x).length = (nb x.1).length + (escL true x.2).length + 4 := by simp [attrOut]; omega
  omega
theorem outI_small (pre ind : List UInt8) (hp : pre.length <= 100) (hi : ind.length <= 100) (tks : List Tk) (j : Iv) (hj : j.d = 0) (hn : tks.length <= 65536) (ho : (toksOut tks).length <= 100000000) : (outI pre ind j tks).length <= 429603348736 := by
 have h1 := outI_len pre ind 65536 tks j (by omega)
 have h2 : tks.length * (1 + pre.length + 65536 * ind.length) <= 65536 * 6553701 := Nat.mul_le_mul hn (by omega)
 omega
theorem u8_ten {r : Nat} (h : okR r) (h10 : r ≠ 10) : (10 : UInt8) ∉ u8 r := by
 intro hc
 by_cases h128 : r < 128
 ·rw [u8_ascii h128] at hc
  have e := congrArg UInt8.toNat (List.mem_singleton.1 hc)
  rw [ofNat_toNat (by omega)] at e
  exact h10 e.symm
 ·have := u8_bytes h (by omega) _ hc
  exact absurd this (by decide)
theorem name_ten {nm : List Nat} (h : NameOk nm) : (10 : UInt8) ∉ nb nm := by
 intro hc
 obtain ⟨r, hr, hc⟩ := List.mem_flatMap.1 hc
 have h1 := h.all r hr
 exact u8_ten (nCt_ok h1) (by rintro rfl; exact absurd h1 (by decide)) hc
theorem esc_ten {r : Nat} (h : isCh r = true) : (10 : UInt8) ∉ esc true r := by
 unfold esc
 split
 ·decide
 split
 ·decide
 split
 ·decide
 split
 ·decide
 split
 ·decide
 split
 ·decide
 split
 ·decide
 split
 ·decide
 ·rename_i h1 h2 h3 h4 h5 h6 h7 h8
  exact u8_ten (isCh_ok h) h7
theorem attrs_ten : ∀ {kv : List (List Nat × List Nat)}, (∀ x ∈ kv, NameOk x.1 /\ (nb x.1 == [120, 109, 108, 110, 115]) = false /\ ∀ r ∈ x.2, isCh r = true) -> (10 : UInt8) ∉ attrsOut kv := by
 intro kv h hc
 obtain ⟨x, hx, hc⟩ := List.mem_flatMap.1 hc
 obtain ⟨h1, _, h3⟩ := h x hx
 have h2 : (10 : UInt8) ∉ escL true x.2 := fun hc => by
  obtain ⟨r, hr, hc⟩ := List.mem_flatMap.1 hc
  exact esc_ten (h3 r hr) hc
 have h4 := name_ten h1
 simp only [attrOut, List.mem_append, List.mem_cons, List.not_mem_nil, or_false] at hc
 rcases hc with (((hc | hc) | hc) | hc) | hc
 ·exact absurd hc (by decide)
 ·exact h4 hc
 ·exact absurd hc (by decide)
 ·exact h2 hc
 ·exact absurd hc (by decide)
theorem tag_ten {t : Tk} (he : t.el = true) (h : tkOk t) : (10 : UInt8) ∉ tkOut t := by
 cases t with
 | st nm kv =>
  intro hc
  have h1 := name_ten h.1
  have h2 := attrs_ten h.2.2
  simp only [tkOut, startOut, List.mem_append, List.mem_cons, List.not_mem_nil, or_false] at hc
  rcases hc with ((hc | hc) | hc) | hc
  ·exact absurd hc (by decide)
  ·exact h1 hc
  ·exact h2 hc
  ·exact absurd hc (by decide)
 | en nm =>
  intro hc
  have h1 := name_ten h.1
  simp only [tkOut, List.mem_append, List.mem_cons, List.not_mem_nil, or_false] at hc
  rcases hc with (hc | hc) | hc
  ·exact absurd hc (by decide)
  ·exact h1 hc
  ·exact absurd hc (by decide)
 | tx rs => cases he
 | cm d => cases he
 | pi nm d => cases he
theorem outI_nl {pre ind : List UInt8} {d : Nat} {l : List Tk} (hel : ∀ t ∈ l, t.el = true) (hne : l ≠ []) : outI pre ind ⟨d, false, true⟩ l = 10 :: outI pre ind ⟨d, false, false⟩ l := by
 cases l with
 | nil => exact absurd rfl hne
 | cons t l =>
  have he := hel t (by simp)
  cases t with
  | st nm kv => simp [outI, Iv.lead, Iv.next, lead]
  | en nm => simp [outI, Iv.lead, Iv.next, lead]
  | tx rs => cases he
  | cm d => cases he
  | pi nm d => cases he
theorem line_cases {pre ind : List UInt8} {o : List (List Nat)} {l : List Tk} (hel : ∀ t ∈ l, t.el = true) (hn : nestL o l = some []) (hne : l ≠ []) :
  (∃ nm o' l', o = nm :: o' /\ l = .en nm :: l' /\ nestL o' l' = some [] /\ outI pre ind ⟨o.length, false, false⟩ l = (pre ++ rep ind o'.length ++ tkOut (.en nm)) ++ outI pre ind ⟨o'.length, false, true⟩ l') \/
  (∃ nm kv l', l = .st nm kv :: .en nm :: l' /\ nestL o l' = some [] /\ outI pre ind ⟨o.length, false, false⟩ l = (pre ++ rep ind o.length ++ (tkOut (.st nm kv) ++ tkOut (.en nm))) ++ outI pre ind ⟨o.length, false, true⟩ l') \/
  (∃ nm kv l', l = .st nm kv :: l' /\ l' ≠ [] /\ nestL (nm :: o) l' = some [] /\ outI pre ind ⟨o.length, false, false⟩ l = (pre ++ rep ind o.length ++ tkOut (.st nm kv)) ++ outI pre ind ⟨(nm :: o).length, false, true⟩ l') := by
 cases l with
 | nil => exact absurd rfl hne
 | cons t l =>
  have he := hel t (by simp)
  cases t with
  | en nm =>
   left
   cases o with
   | nil => simp [nestL, nestS] at hn
   | cons x o =>
    by_cases hx : x = nm
    ·subst hx
     simp [nestL, nestS] at hn
     exact ⟨x, o, l, rfl, rfl, hn, by simp [outI, Iv.lead, Iv.next, lead]⟩
    ·simp [nestL, nestS, hx] at hn
  | st nm kv =>
   right
   have hn' : nestL (nm :: o) l = some [] := hn
   cases l with
   | nil => simp [nestL] at hn'
   | cons u l =>
    have hu := hel u (by simp)
    cases u with
    | en nm2 =>
     left
     by_cases hx : nm = nm2
     ·subst hx
      simp [nestL, nestS] at hn'
      exact ⟨nm, kv, l, rfl, hn', by simp [outI, Iv.lead, Iv.next, lead]⟩
     ·simp [nestL, nestS, hx] at hn'
    | st nm2 kv2 =>
     right
     exact ⟨nm, kv, _, rfl, by simp, hn', by simp [outI, Iv.lead, Iv.next, lead]⟩
    | tx rs => cases hu
    | cm d => cases hu
    | pi nm d => cases hu
  | tx rs => cases he
  | cm d => cases he
  | pi nm d => cases he
end Go.Proofs.YtepbbahdhhjibaaGreatDoor
