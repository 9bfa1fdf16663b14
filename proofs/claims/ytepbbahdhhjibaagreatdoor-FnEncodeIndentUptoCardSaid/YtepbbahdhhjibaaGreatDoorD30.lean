/- own text -/
import Derived.Deep.CutRange
import Derived.Test.YtepbbahdhhjibaaGreatDoorD29
namespace Go.Proofs.YtepbbahdhhjibaaGreatDoor
set_option linter.unusedSimpArgs false
set_option linter.unusedVariables false
set_option maxHeartbeats 4000000
set_option maxRecDepth 100000
open Go.RowKit
def tagsOf (opn : List (List Nat)) : List ByteArray := (opn.map nameB).reverse
theorem tagsOf_cons (nm : List Nat) (opn : List (List Nat)) : tagsOf (nm :: opn) = tagsOf opn ++ [nameB nm] := by simp [tagsOf]
theorem enc_do (X : Px) (v : Pv) (out : List UInt8) (opn opn' : List (List Nat)) (w : World) (tk : Tk) (x : Value) (base : Nat) (h : Pr X w v false out (tagsOf opn)) (hU : UT w) (h5 : ∀ x, X.own v x -> 5 <= x) (h5w : 5 <= w.heap.size) (htags : opn.length <= 549755813888) (hin : X.ind ≠ []) (hdp : X.iv.d = opn.length)
  (hg : GivenV w base x tk) (hb : ∀ y, X.own v y -> y < base) (hok : tkOk tk) (hn : nestS opn tk = some opn') (hl : out.length + 1 + X.pre.length + X.iv.d * X.ind.length <= 549755813888) (hl2 : (tkOut tk).length <= 100000000) (hkv : tk.kv.length <= 549755813888) :
  Calls Tryz.prog 33 #[.pointer (some ⟨X.P, 0, none⟩), x] w fun e w' => e = .returned .nilIface /\ EncP X (X.iv.next tk) w v (out ++ (X.iv.lead X.pre X.ind tk ++ tkOut tk)) (tagsOf opn') w' := by
 have htl : (tagsOf opn).length <= 549755813888 := by simpa [tagsOf] using htags
 have hno : ∀ g, base <= g -> ¬ X.own v g := fun g hg hx => by have := hb g hx; omega
 cases tk with
 | st nm kv =>
  obtain ⟨av, rfl, hrow, hbl⟩ := hg
  obtain ⟨h1, h2, h3⟩ := hok
  obtain rfl : opn' = nm :: opn := by injection hn with e; exact e.symm
  rw [tagsOf_cons]
  have e1 : (startOut nm kv).length = (nb nm).length + (attrsOut kv).length + 2 := by unfold startOut; simp; omega
  have e2 : (tkOut (.st nm kv)).length = (startOut nm kv).length := rfl
  have e3 := vals_le kv
  have e5 := lead_len X.pre X.ind X.iv.nl X.iv.d
  refine enc_st X v out (tagsOf opn) w h hU h5 h5w htl hin (by omega) nm kv av h1.nb_ne hrow (fun k hk => hno k (hbl k hk)) hkv (fun x hx => (h3 x hx).1.nb_ne) (fun x hx => ⟨(h3 x hx).2.2, ?_⟩) (by omega)
  have := flat_le (fun x : List Nat × List Nat => nb x.2) hx
  omega
 | en nm =>
  obtain rfl : x = _ := hg
  cases opn with
  | nil => simp [nestS] at hn
  | cons y opn =>
   by_cases hy : y = nm
   ·subst hy
    obtain rfl : opn' = opn := by simp [nestS] at hn; exact hn.symm
    have e2 : (tkOut (.en y)).length = (nb y).length + 3 := by simp [tkOut]
    have e5 := lead_len X.pre X.ind X.iv.nl (X.iv.d - 1)
    have e6 : (X.iv.d - 1) * X.ind.length <= X.iv.d * X.ind.length := Nat.mul_le_mul_right _ (by omega)
    exact enc_en X v out _ w h htl hin (by omega) y hok.1.nb_ne (tagsOf opn') (tagsOf_cons y opn') (by rw [hdp]; simp) (by omega)
   ·simp [nestS, hy] at hn
 | tx rs => cases hg
 | cm d => cases hg
 | pi nm d => cases hg
theorem TokL.get {w : World} {A : Nat -> Prop} : ∀ {tks : List Tk} {cs : List Value}, TokL w A tks cs -> ∀ (i : Nat) (h : i < tks.length), ∃ av o l c, AttrV w A tks[i] av /\ ∀ j, j < 8 -> cs[i * 8 + j]? = (tokCells tks[i] av o l c)[j]? := by
 intro tks
 induction tks with
 | nil => intro cs _ i h; simp at h
 | cons tk tks ih =>
  rintro cs ⟨av, o, l, c, rest, rfl, h2, h3⟩ i hi
  have hl : (tokCells tk av o l c).length = 8 := rfl
  cases i with
  | zero =>
   refine ⟨av, o, l, c, h2, fun j hj => ?_⟩
   rw [Nat.zero_mul, Nat.zero_add, List.getElem?_append_left (by omega)]
   rfl
  | succ i =>
   obtain ⟨av', o', l', c', h4, h5⟩ := ih h3 i (by simpa using hi)
   refine ⟨av', o', l', c', h4, fun j hj => ?_⟩
   rw [List.getElem?_append_right (by omega), hl, show (i + 1) * 8 + j - 8 = i * 8 + j by omega]
   exact h5 j hj
theorem AttrV.one {w : World} {A : Nat -> Prop} {tk : Tk} {av : Value} (h : AttrV w A tk av) : av.oneCell' = true := by
 cases tk with
 | st nm kv => rcases h.1.2 with ⟨rfl, _⟩ | ⟨_, _, _, rfl, _⟩ <;> rfl
 | en nm => obtain rfl : av = _ := h; rfl
 | tx nm => obtain rfl : av = _ := h; rfl
 | cm nm => obtain rfl : av = _ := h; rfl
 | pi nm d => obtain rfl : av = _ := h; rfl
theorem AttrV.form {w : World} {A : Nat -> Prop} {tk : Tk} {av : Value} (h : AttrV w A tk av) : ∃ p n c, av = .slice p n c := by
 cases tk with
 | st nm kv => rcases h.1.2 with ⟨rfl, _⟩ | ⟨_, _, _, rfl, _⟩ <;> exact ⟨_, _, _, rfl⟩
 | en nm => obtain rfl : av = _ := h; exact ⟨_, _, _, rfl⟩
 | tx nm => obtain rfl : av = _ := h; exact ⟨_, _, _, rfl⟩
 | cm nm => obtain rfl : av = _ := h; exact ⟨_, _, _, rfl⟩
 | pi nm d => obtain rfl : av = _ := h; exact ⟨_, _, _, rfl⟩
theorem conv_row {w : World} {va : Value} {a : List UInt8} (h : w.ownsRow 0 5 1 va a.length (bv a)) : (convert 56 9 va).run Tryz.prog w = .ok (.string ⟨a.toArray⟩) w := by
 rcases h.2 with ⟨rfl, h0⟩ | ⟨g, cap, cur, rfl, _⟩
 ·have : a = [] := List.length_eq_zero_iff.1 h0
  subst this
  exact run_convert_bytes_nil (P := Tryz.prog) (w := w) 56 5 Tryz.underlying56 Tryz.underlying5 0 0 9 Tryz.underlying9
 ·have hl : Lies w g 0 a := by
   intro j c hj
   have := h.cells (g := g) rfl j (.int .u8 c.toNat) (by simp [bv, hj])
   rw [Lib.addr_add] at this
   exact this
  exact hl.str rfl
theorem nest_take {tks : List Tk} {i : Nat} (h : i < tks.length) {o o1 : List (List Nat)} (hn : nestL o (tks.take i) = some o1) : nestL o (tks.take (i + 1)) = nestS o1 tks[i] := by
 rw [List.take_succ_eq_append_getElem h, nestL_app, hn]
 simp [nestL]
theorem nest_len : ∀ (tks : List Tk) (o o1 : List (List Nat)), nestL o tks = some o1 -> o1.length <= o.length + tks.length := by
 intro tks
 induction tks with
 | nil => intro o o1 h; injection h with h; subst h; simp
 | cons t tks ih =>
  intro o o1 h
  simp only [nestL] at h
  cases hs : nestS o t with
  | none => rw [hs] at h; cases h
  | some o2 =>
   rw [hs, Option.bind_some] at h
   have h1 := ih o2 o1 h
   have h2 : o2.length <= o.length + 1 := by
    cases t with
    | st nm kv => injection hs with hs; subst hs; simp
    | en nm =>
     cases o with
     | nil => simp [nestS] at hs
     | cons y o =>
      simp only [nestS] at hs
      split at hs
      ·injection hs with hs; subst hs; simp; omega
      ·cases hs
    | tx rs => injection hs with hs; subst hs; omega
    | cm d => injection hs with hs; subst hs; omega
    | pi nm d => injection hs with hs; subst hs; omega
   simp only [List.length_cons]; omega
theorem nest_some_take {tks : List Tk} {o o1 : List (List Nat)} (h : nestL o tks = some o1) (i : Nat) : ∃ o2, nestL o (tks.take i) = some o2 /\ nestL o2 (tks.drop i) = some o1 := by
 rw [<- List.take_append_drop i tks, nestL_app] at h
 cases hs : nestL o (tks.take i) with
 | none => rw [hs] at h; cases h
 | some o2 => rw [hs, Option.bind_some] at h; exact ⟨o2, rfl, h⟩
theorem out_take_le (tks : List Tk) (i : Nat) : (toksOut (tks.take i)).length <= (toksOut tks).length := by
 conv => rhs; rw [<- List.take_append_drop i tks, toksOut_app]
 rw [List.length_append]; omega
theorem out_one_le {tks : List Tk} {i : Nat} (h : i < tks.length) : (tkOut tks[i]).length <= (toksOut tks).length := flat_le tkOut (List.getElem_mem h)
theorem out_take_succ {tks : List Tk} {i : Nat} (h : i < tks.length) : toksOut (tks.take (i + 1)) = toksOut (tks.take i) ++ tkOut tks[i] := by
 rw [List.take_succ_eq_append_getElem h, toksOut_app, toksOut_one]
theorem outI_take {tks : List Tk} {pre ind : List UInt8} {j : Iv} {i : Nat} (h : i < tks.length) : outI pre ind j (tks.take (i + 1)) = outI pre ind j (tks.take i) ++ ((stI j (tks.take i)).lead pre ind tks[i] ++ tkOut tks[i]) := by
 rw [List.take_succ_eq_append_getElem h, outI_snoc]
theorem stI_take {tks : List Tk} {j : Iv} {i : Nat} (h : i < tks.length) : stI j (tks.take (i + 1)) = (stI j (tks.take i)).next tks[i] := by
 rw [List.take_succ_eq_append_getElem h, stI_snoc]
theorem stI_d : ∀ (tks : List Tk) (j : Iv) (o o1 : List (List Nat)), (∀ t ∈ tks, t.el = true) -> nestL o tks = some o1 -> j.d = o.length -> (stI j tks).d = o1.length := by
 intro tks
 induction tks with
 | nil => intro j o o1 _ h hd; injection h with h; subst h; exact hd
 | cons t tks ih =>
  intro j o o1 hel h hd
  have he := hel t (by simp)
  have ih' := fun j o => ih j o o1 (fun x hx => hel x (by simp [hx]))
  cases t with
  | st nm kv => exact ih' (j.next (.st nm kv)) (nm :: o) h (by simp [Iv.next, hd])
  | en nm =>
   cases o with
   | nil => simp [nestL, nestS] at h
   | cons x o =>
    by_cases hx : x = nm
    ·subst hx
     simp [nestL, nestS] at h
     exact ih' (j.next (.en x)) o h (by simp [Iv.next, hd])
    ·simp [nestL, nestS, hx] at h
  | tx rs => cases he
  | cm d => cases he
  | pi nm d => cases he
theorem encode_do (pre ind : List UInt8) (hind : ind ≠ []) (hpl : pre.length <= 100) (hil : ind.length <= 100) (lv : Value) (tks : List Tk) (base : Nat) (w : World) (hT : ToksAt w base lv tks) (hok : ∀ t ∈ tks, tkOk t) (hel : ∀ t ∈ tks, t.el = true) (hn : nestL [] tks = some []) (hlen : tks.length <= 65536) (hsz : (toksOut tks).length <= 100000000) (hU : UT w) (h5 : 5 <= w.heap.size) :
  Calls Tryz.prog 9 #[lv, .string ⟨pre.toArray⟩, .string ⟨ind.toArray⟩, .bool true] w fun e w' => e = .returned (.tuple #[.string ⟨(outI pre ind ⟨0, false, false⟩ tks).toArray⟩, .int .i64 0]) /\ Old w w' := by
 obtain ⟨cs, hrow, hTL⟩ := hT.ex
 have hlv : ∃ pa ca, lv = .slice pa tks.length ca := by
  rcases hrow.2 with ⟨h1, h2⟩ | ⟨g, cap, cur, h1, _⟩
  ·rw [h2]; exact ⟨_, _, h1⟩
  ·exact ⟨_, _, h1⟩
 obtain ⟨pa, ca, rfl⟩ := hlv
 have hcell : ∀ w', Old w w' -> ∀ i (h : i < tks.length), ∃ g av o l c, pa = some ⟨g, 0, none⟩ /\ AttrV w' (fun k => base <= k /\ (Value.slice pa tks.length ca).ownBlock ≠ some k) tks[i] av /\ ∀ j, j < 8 -> w'.cell? ⟨g, i * 8 + j, none⟩ = (tokCells tks[i] av o l c)[j]? := by
  intro w' ho i hi
  obtain ⟨g, cap, hv, _, hc⟩ := ownsRow_some hrow (by omega)
  obtain ⟨av, o, l, c, h1, h2⟩ := hTL.get i hi
  refine ⟨g, av, o, l, c, by injection hv, h1.keep ho (fun k _ h => h), fun j hj => ?_⟩
  have h3 := h2 j hj
  have hlt : j < (tokCells tks[i] av o l c).length := hj
  rw [List.getElem?_eq_getElem hlt] at h3 ⊢
  exact ho.cell (hc _ _ h3)
 have hne := newEnc_do w.heap.size (w.alloc (.cells #[.slice none 0 0] 58)) (Blk.new w _ _)
 have ho0 : Old w (w.alloc (.cells #[.slice none 0 0] 58)) := (Fr.refl _ w).alloc _
 have hne' := hne.mono (R' := fun e w1 => ∃ X : Px, e = .returned (.pointer (some ⟨X.P, 0, none⟩)) /\ Hid (X.E.W = w.heap.size /\ X.iv = ⟨0, false, false⟩ /\ Old w w1 /\ ∃ v, Pr X w1 v false [] [] /\ ∀ x, X.own v x -> w.heap.size <= x)) (by
  rintro e w1 ⟨X, rfl, h1, h0, h2, v, h3, h4⟩
  exact ⟨X, rfl, h1, h0, ho0.old h2, v, h3, fun x hx => by
   rcases h4 x hx with h | h
   ·omega
   ·have : w.heap.size + 1 <= x := by simpa using h
    omega⟩)
 clear hne ho0
 obtain ⟨sp, hsp⟩ : ∃ sp : ByteArray, sp = ⟨pre.toArray⟩ := ⟨_, rfl⟩
 obtain ⟨si, hsi⟩ : ∃ si : ByteArray, si = ⟨ind.toArray⟩ := ⟨_, rfl⟩
 have hii : ∀ (X : Px) (w1 : World), (X.E.W = w.heap.size /\ X.iv = ⟨0, false, false⟩ /\ Old w w1 /\ ∃ v, Pr X w1 v false [] [] /\ ∀ x, X.own v x -> w.heap.size <= x) -> Calls Tryz.prog 30 #[.pointer (some ⟨X.P, 0, none⟩), .string sp, .string si] w1 fun e w2 => e = .returned (.tuple #[]) /\ Hid (X.E.W = w.heap.size /\ Old w w2 /\ ∃ v, Pr ⟨X.P, X.E, pre, ind, ⟨0, false, false⟩⟩ w2 v false [] [] /\ ∀ x, X.own v x -> w.heap.size <= x) := fun X w1 hx => by
  obtain ⟨h1, h0, h2, v, h3, h4⟩ := hx
  refine (eindent_do X v [] [] pre ind sp si hsp hsi w1 h3).mono ?_
  rintro e w2 ⟨rfl, s1, s2⟩
  rw [h0] at s2
  exact ⟨rfl, h1, h2.trans s1.fr (fun x hx => .inr (h4 x hx)), v, s2, h4⟩
 replace hii := zz hii
 rw [<- hsp, <- hsi]
 have hsiz : 0 < si.size := by rw [hsi, Lib.size_eq]; exact List.length_pos_iff.2 hind
 have i1 := toList_ne hsiz
 have i2 : ¬ si.toList = [] := fun e => by rw [e] at i1; exact absurd i1 (by decide)
 have hspz : sp.toList.isEmpty = true /\ sp.toList = [] \/ sp.toList.isEmpty = false /\ ¬ sp.toList = [] := by
  cases hs : sp.toList with
  | nil => exact .inl ⟨rfl, rfl⟩
  | cons a b => exact .inr ⟨rfl, by simp⟩
 replace hsp := zz hsp
 replace hsi := zz hsi
 have hind' := zz hind
 clear hind
 replace hcell := zz hcell
 replace hU := zz hU
 replace hok := zz hok
 replace hn := zz hn
 clear hT hrow hTL
 go_enter Tryz.func9, Tryz.ntmps9
 go_upto_region 3 with (go_at_call 29; refine hne'.mono ?_; rintro e w1 ⟨X, rfl, k1⟩)
 go_cut [29] from 24 to 29 (fun u29 wx => u29 = .bool true /\ wx = w1)
 case first =>
  rcases hspz with ⟨e1, e2⟩ | ⟨e1, e2⟩
  all_goals (
   go_wp2
   go_meet
   case rel => exact ⟨rfl, rfl⟩)
 case rest =>
 obtain ⟨rfl, hw⟩ := hcut
 rw [hw]; clear hw wc
 go_upto_if 29 with fail
 go_cut [] from 30 to 33 (fun wx => X.E.W = w.heap.size /\ Old w wx /\ ∃ v, Pr ⟨X.P, X.E, pre, ind, ⟨0, false, false⟩⟩ wx v false [] [] /\ ∀ x, X.own v x -> w.heap.size <= x)
 case first =>
  go_wp2_with (go_at_call 30; refine (hii.out X _ k1.out).mono ?_; rintro e w2 ⟨rfl, k2⟩)
  go_meet
  case rel => exact k2.out
 case rest =>
 replace hcut := zz hcut
 clear hspz i1 i2 hii k1
 go_wp2
 go_loopg [12, 36] tks.length (fun k u12 u36 wr => ∃ (i : Nat) (v : Pv) (opn : List (List Nat)), u12 = .int .i64 0 /\ u36 = .int .i64 i /\ i + k = tks.length /\ Old w wr /\ Pr ⟨X.P, X.E, pre, ind, stI ⟨0, false, false⟩ (tks.take i)⟩ wr v false (outI pre ind ⟨0, false, false⟩ (tks.take i)) (tagsOf opn) /\ nestL [] (tks.take i) = some opn /\ X.E.W = w.heap.size /\ ∀ x, X.own v x -> w.heap.size <= x)
 case atStart =>
  obtain ⟨h1, h2, v, h3, h4⟩ := hcut.out
  exact ⟨0, v, [], rfl, rfl, by omega, h2, h3, rfl, h1, h4⟩
 case round =>
  obtain ⟨i, v, opn, rfl, rfl, hik, hO, hP, hno, hXW, hown⟩ := hrel
  clear hcut hne'
  by_cases hi : i < tks.length
  ·obtain ⟨g, av, o, l, c, rfl, hAV, hcl⟩ := hcell.out wr hO i hi
   have q0 : wr.cell? ⟨g, i * 8, none⟩ = some (.int .i64 tks[i].kind) := hcl 0 (by omega)
   have q1 : wr.cell? ⟨g, i * 8 + 1, none⟩ = some (.string ⟨#[]⟩) := hcl 1 (by omega)
   have q2 : wr.cell? ⟨g, i * 8 + 2, none⟩ = some (.string tks[i].loc) := hcl 2 (by omega)
   have q3 : wr.cell? ⟨g, i * 8 + 3, none⟩ = some av := hcl 3 (by omega)
   have q4 : wr.cell? ⟨g, i * 8 + 4, none⟩ = some (.string tks[i].text) := hcl 4 (by omega)
   have q5 : wr.cell? ⟨g, i * 8 + 5, none⟩ = some (.int .i64 o) := hcl 5 (by omega)
   have q6 : wr.cell? ⟨g, i * 8 + 6, none⟩ = some (.int .i64 l) := hcl 6 (by omega)
   have q7 : wr.cell? ⟨g, i * 8 + 7, none⟩ = some (.int .i64 c) := hcl 7 (by omega)
   clear hcl
   have hI : IntKind.i64.wrap ((i : Int) + 1) = ((i + 1 : Nat) : Int) := by rw [IntWalk.i64_in _ (by omega)]; omega
   have hi2 : (i : Int) < (tks.length : Int) := by omega
   have hnt := nest_take hi hno
   obtain ⟨opn', ho1, ho2⟩ := nest_some_take hn.out (i + 1)
   rw [ho1] at hnt
   have hot := outI_take (pre := pre) (ind := ind) (j := ⟨0, false, false⟩) hi
   have hst := stI_take (j := ⟨0, false, false⟩) hi
   have hle1 := outI_small pre ind hpl hil (tks.take i) ⟨0, false, false⟩ rfl (by simp; omega) (Nat.le_trans (out_take_le tks i) hsz)
   have hle2 := out_one_le hi
   have helt := hel _ (List.getElem_mem hi)
   have hdd := stI_d (tks.take i) ⟨0, false, false⟩ [] opn (fun t ht => hel t (List.mem_of_mem_take ht)) hno rfl
   have hnl := nest_len _ _ _ hno
   have htl : (tks.take i).length <= tks.length := by simp; omega
   have hokt := hok.out _ (List.getElem_mem hi)
   have hkvt := hAV.row.2
   obtain ⟨pv, nv, cv, rfl⟩ := hAV.form
   generalize tks[i] = tk at *
   obtain ⟨WA, hWA⟩ : ∃ WA, WA = wr.alloc (.cells #[.int .i64 tk.kind, .string ⟨#[]⟩, .string tk.loc, .slice pv nv cv, .string tk.text, .int .i64 o, .int .i64 l, .int .i64 c] 64) := ⟨_, rfl⟩
   have hoA : Old wr WA := by rw [hWA]; exact (Fr.refl _ wr).alloc _
   have hgv := (given_do tk _ _ o l c WA (hAV.keep hoA (fun k _ h => h)) helt).mono (R' := fun e w' => ∃ x, e = .returned (.tuple #[x, .bool true]) /\ Hid (Old WA w' /\ GivenV w' WA.heap.size x tk)) (fun _ _ h => h)
   have hec : ∀ w2 x, Old WA w2 /\ GivenV w2 WA.heap.size x tk -> Calls Tryz.prog 33 #[.pointer (some ⟨X.P, 0, none⟩), x] w2 fun e w' => e = .returned .nilIface /\ Hid (∃ v', Old w w' /\ Pr ⟨X.P, X.E, pre, ind, stI ⟨0, false, false⟩ (tks.take (i + 1))⟩ w' v' false (outI pre ind ⟨0, false, false⟩ (tks.take (i + 1))) (tagsOf opn') /\ ∀ x, X.own v' x -> w.heap.size <= x) := fun w2 x hx => by
    have hO2 : Old wr w2 := hoA.old hx.1
    refine (enc_do ⟨X.P, X.E, pre, ind, stI ⟨0, false, false⟩ (tks.take i)⟩ v (outI pre ind ⟨0, false, false⟩ (tks.take i)) opn opn' w2 tk x WA.heap.size (hP.old hO2) (hU.out.fr (hO.old hO2) (fun h => h) (fun h => h)) (fun x hx => by have := hown x hx; omega) (Nat.le_trans h5 (hO.old hO2).size) (by simp at hnl; omega) hind'.out hdd hx.2 (fun y hy => Nat.lt_of_lt_of_le (hP.lt y hy) hoA.size) hokt hnt.symm (by rw [hdd]; have : opn.length * ind.length <= 65536 * 100 := Nat.mul_le_mul (by simp at hnl; omega) hil; simp only; omega) (by omega) hkvt).mono ?_
    rintro e w' ⟨rfl, v', s1, s2⟩
    rw [<- hot] at s2
    have s3 : Pr ⟨X.P, X.E, pre, ind, stI ⟨0, false, false⟩ (tks.take (i + 1))⟩ w' v' false (outI pre ind ⟨0, false, false⟩ (tks.take (i + 1))) (tagsOf opn') := by rw [hst]; exact s2
    have f1 : Fr (X.own v) w2 w' := s1.fr
    refine ⟨rfl, v', (hO.old hO2).trans f1 (fun x hx => .inr (hown x hx)), s3, fun x hx => ?_⟩
    rcases s1.nw x hx with h | h
    ·exact hown x h
    ·have := (hO.old hO2).size; omega
   replace hec := zz hec
   replace ho1 := zz ho1
   clear hAV hO hP hno hown hnt ho2 hot hst hle1 hle2 hnl htl hokt hoA helt hdd hkvt
   generalize hK : tk.kind = K at *
   generalize hLo : tk.loc = Lo at *
   generalize hTe : tk.text = Te at *
   replace hK := zz hK
   replace hLo := zz hLo
   replace hTe := zz hTe
   subst hWA
   go_wp2_with (first
    | (go_at_call 31; refine hgv.mono ?_; rintro e w2 ⟨x, rfl, k2⟩)
    | (go_at_call 33; refine (hec.out _ _ k2.out).mono ?_; rintro e w3 ⟨rfl, k3⟩)
    | (go_at_call 32; refine (code_nil _).mono ?_; rintro e w4 ⟨rfl, k4⟩; replace k4 := zz k4))
   go_roundg (tks.length - (i + 1))
   case measure => omega
   case rel =>
    obtain ⟨v', h1, h2, h3⟩ := k3.out
    exact ⟨i + 1, v', opn', rfl, rfl, by omega, h1.old k4.out, h2.old k4.out, ho1.out, hXW, h3⟩
  ·have hie : i = tks.length := by omega
   subst hie
   have hi2 : ¬ ((tks.length : Int) < (tks.length : Int)) := by omega
   rw [List.take_length] at hP hno
   have hle1 := outI_small pre ind hpl hil tks ⟨0, false, false⟩ rfl hlen hsz
   obtain ⟨OUT, hOUT⟩ : ∃ OUT, OUT = outI pre ind ⟨0, false, false⟩ tks := ⟨_, rfl⟩
   rw [<- hOUT] at hP hle1
   rw [hn.out] at hno
   obtain rfl : opn = [] := by injection hno with e; exact e.symm
   have hfl := (eflush_do ⟨X.P, X.E, pre, ind, stI ⟨0, false, false⟩ tks⟩ v OUT [] wr hP (by omega)).mono (R' := fun e w' => e = .returned .nilIface /\ Hid (∃ v', Old w w' /\ Pr ⟨X.P, X.E, pre, ind, stI ⟨0, false, false⟩ tks⟩ w' v' false OUT [] /\ ∀ x, X.own v' x -> w.heap.size <= x)) (by
    rintro e w' ⟨rfl, va', s1, s2, _⟩
    refine ⟨rfl, _, hO.trans s1.fr (fun x hx => .inr (hown x hx)), s2, fun x hx => ?_⟩
    rcases s1.nw x hx with h | h
    ·exact hown x h
    ·have := hO.size; omega)
   have hcl : ∀ w2 w3, (∃ v', Old w w2 /\ Pr ⟨X.P, X.E, pre, ind, stI ⟨0, false, false⟩ tks⟩ w2 v' false OUT [] /\ ∀ x, X.own v' x -> w.heap.size <= x) -> Old w2 w3 -> Calls Tryz.prog 35 #[.pointer (some ⟨X.P, 0, none⟩)] w3 fun e w' => e = .returned .nilIface /\ Hid (Old w w' /\ ∃ va', Blk w' w.heap.size #[va'] 58 /\ w'.ownsRow 0 5 1 va' OUT.length (bv OUT)) := fun w2 w3 hx ho => by
    obtain ⟨v', h1, h2, h3⟩ := hx
    refine (eclose_do ⟨X.P, X.E, pre, ind, stI ⟨0, false, false⟩ tks⟩ v' OUT w3 (h2.old ho) (by omega)).mono ?_
    rintro e w' ⟨rfl, va', s1, s2, s3⟩
    refine ⟨rfl, (h1.old ho).trans s1.fr (fun x hx => .inr (h3 x hx)), ?_⟩
    obtain ⟨a, b, cells, e1, e2, e3, e4, e5, e6, e7, e8⟩ := s2.ex
    have hb0 : b.length = 0 := by
     rw [e3.cell] at s3
     have : (wrA X.E b.length)[2]? = some (.int .i64 b.length) := rfl
     rw [this] at s3
     injection s3 with s3
     injection s3 with _ s3
     omega
    have hb : b = [] := List.length_eq_zero_iff.1 hb0
    subst hb
    rw [List.append_nil] at e1
    subst e1
    rw [hXW] at e7
    exact ⟨va', e7, e8⟩
   replace hcl := zz hcl
   clear hO hP hno hown
   go_wp2_with (first
    | (go_at_call 32; refine (code_nil _).mono ?_; rintro e w5 ⟨rfl, k5⟩; have c5 := k5.cell c4; have hcv := conv_row (ownsRow_frame hr4.out k5 (fun _ _ h => h)); replace k5 := zz k5)
    | (go_at_call 34; refine hfl.mono ?_; rintro e w2 ⟨rfl, k2⟩)
    | (go_at_call 32; refine (code_nil _).mono ?_; rintro e w3 ⟨rfl, k3⟩; replace k3 := zz k3)
    | (go_at_call 35; refine (hcl.out _ _ k2.out k3.out).mono ?_; rintro e w4 ⟨rfl, k4⟩; clear k3; obtain ⟨ho4, va', hb4, hr4⟩ := k4.out; have c4 : w4.cell? ⟨w.heap.size, 0, none⟩ = some va' := (by rw [hb4.cell]; rfl); replace hb4 := zz hb4; replace hr4 := zz hr4; replace ho4 := zz ho4; clear k4))
   go_ret2
   exact ⟨rfl, ho4.out.old k5.out⟩
end Go.Proofs.YtepbbahdhhjibaaGreatDoor
