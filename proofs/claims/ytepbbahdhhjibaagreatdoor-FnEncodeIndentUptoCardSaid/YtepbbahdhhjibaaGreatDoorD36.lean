/- own text -/
import Derived.Test.YtepbbahdhhjibaaGreatDoorD20
import Derived.Test.YtepbbahdhhjibaaGreatDoorD28
import Derived.Test.YtepbbahdhhjibaaGreatDoorD34
namespace Go.Proofs.YtepbbahdhhjibaaGreatDoor
set_option linter.unusedSimpArgs false
set_option linter.unusedVariables false
set_option maxHeartbeats 8000000
set_option maxRecDepth 100000
section
open Go.RowKit
def gtOf : Tk -> GT
 | .st nm kv => ⟨1, ⟨#[]⟩, nameB nm, kv.map fun x => ((⟨#[]⟩ : ByteArray), nameB x.1, nameB x.2), ⟨#[]⟩, 0⟩
 | .en nm => ⟨2, ⟨#[]⟩, nameB nm, [], ⟨#[]⟩, 0⟩
 | .tx rs => ⟨3, ⟨#[]⟩, ⟨#[]⟩, [], nameB rs, 0⟩
 | .cm d => ⟨4, ⟨#[]⟩, ⟨#[]⟩, [], ⟨d.toArray⟩, 0⟩
 | .pi nm d => ⟨5, ⟨#[]⟩, nameB nm, [], ⟨d.toArray⟩, 0⟩
def GT.er (g : GT) : GT := { g with pos := 0 }
def addG (l : List GT) (t : GT) : List GT :=
 if t.kind = 3 /\ t.txt.size = 0 then l
 else match l.getLast? with
  | some u => if t.kind = 3 /\ u.kind = 3 then l.dropLast ++ [{ u with txt := u.txt ++ t.txt, pos := t.pos }] else l ++ [t]
  | none => l ++ [t]
def mergeG (l : List GT) : List GT := l.foldl addG []
def xmlnsL : List UInt8 := [120, 109, 108, 110, 115]
theorem ownsRow_shape {w : World} {e : TypeId} {size n : Nat} {v : Value} {xs : List Value} (h : w.ownsRow 0 e size v n xs) : ∃ p c, v = .slice p (n : Nat) c := by
 rcases h.2 with ⟨h1, h2⟩ | ⟨g, cap, cur, h1, _⟩
 ·subst h2; exact ⟨_, _, h1⟩
 ·exact ⟨_, _, h1⟩
theorem snoc_or {α : Type} (l : List α) : l = [] \/ ∃ t x, l = t ++ [x] := by
 rcases List.eq_nil_or_concat l with h | ⟨t, x, h⟩
 ·exact .inl h
 ·exact .inr ⟨t, x, by simpa using h⟩
theorem take_ne {l lit : List UInt8} (h : ∀ t, l ≠ lit ++ t) : l.take lit.length ≠ lit := fun e => h (l.drop lit.length) (by rw [<- List.take_append_drop lit.length l]; rw [e]; simp)
theorem lit_or (lit l : List UInt8) : (∃ t, l = lit ++ t) \/ ∀ t, l ≠ lit ++ t := by
 by_cases h : ∃ t, l = lit ++ t
 ·exact .inl h
 ·exact .inr fun t e => h ⟨t, e⟩
theorem info30 : (Tryz.prog.info? 30).map (fun i => (i.zero, i.size, i.bytes)) = some (some (.agg #[.string ⟨#[]⟩, .string ⟨#[]⟩, .string ⟨#[]⟩]), 3, 48) := by kernel_rfl
theorem atsC_one (l : List (ByteArray × ByteArray × ByteArray)) : ∀ u ∈ atsC l, u.oneCell' = true := by
 intro u hu
 obtain ⟨x, _, hx⟩ := List.mem_flatMap.1 hu
 simp at hx
 rcases hx with rfl | rfl | rfl <;> rfl
theorem atsC_get : ∀ (l : List (ByteArray × ByteArray × ByteArray)) (i : Nat) (h : i < l.length), (atsC l)[i * 3]? = some (.string l[i].1) /\ (atsC l)[i * 3 + 1]? = some (.string l[i].2.1) /\ (atsC l)[i * 3 + 2]? = some (.string l[i].2.2) := by
 intro l
 induction l with
 | nil => intro i h; exact absurd h (Nat.not_lt_zero _)
 | cons x l ih =>
  intro i hi
  cases i with
  | zero => exact ⟨rfl, rfl, rfl⟩
  | succ i =>
   obtain ⟨e1, e2, e3⟩ := ih i (by simpa using hi)
   have e : atsC (x :: l) = .string x.1 :: .string x.2.1 :: .string x.2.2 :: atsC l := rfl
   rw [e, show (i + 1) * 3 = i * 3 + 1 + 1 + 1 by omega]
   exact ⟨by simpa using e1, by simpa using e2, by simpa using e3⟩
theorem own_free {w : World} {e : TypeId} {size n : Nat} {v : Value} {xs : List Value} (h : w.ownsRow 0 e size v n xs) {g : Nat} (hg : v.ownBlock = some g) (i : Nat) : w.frozen? ⟨g, i, none⟩ = false := by
 rcases h.2 with ⟨rfl, _⟩ | ⟨g', cap, cur, rfl, _, hb, _⟩
 ·cases hg
 ·have e1 : g' = g := by simpa [Value.ownBlock] using hg
  subst e1
  exact Blk.fz hb i
structure RowG (w : World) (lv : Value) (gs : List GT) : Prop where
 ex : ∃ cs, w.ownsRow 0 28 6 lv gs.length cs /\ TokG w (fun k => lv.ownBlock ≠ some k) gs cs
theorem RowG.old {w w' : World} {lv : Value} {gs : List GT} (h : RowG w lv gs) (f : Old w w') : RowG w' lv gs := by
 obtain ⟨cs, h1, h2⟩ := h.ex
 exact ⟨cs, ownsRow_frame h1 f (fun _ _ h => h), h2.keep f (fun k _ hk => ⟨fun h => h, hk⟩)⟩
theorem SQ.row {P : Nat} {s : ByteArray} {base : Nat} {w : World} {a : Nat} {q : PV} {vd : Int} {gs : List GT} {opn : List ByteArray} {bnd : List (List (ByteArray × ByteArray))} (h : SQ P s base w a q vd gs opn bnd) : RowG w q.ov gs := by
 obtain ⟨cs, h1, h2⟩ := h.out
 exact ⟨cs, h1, h2.keep (Fr.refl (fun _ => False) w) (fun k _ hk => ⟨fun h => h, fun e => hk (.inr (.inl e))⟩)⟩
theorem TokG.get {w : World} {A : Nat -> Prop} : ∀ {gs : List GT} {cs : List Value}, TokG w A gs cs -> ∀ (i : Nat) (h : i < gs.length), ∃ av, AttrG w A av gs[i].ats /\ cs[i * 6]? = some (.int .i64 gs[i].kind) /\ cs[i * 6 + 1]? = some (.string gs[i].sp) /\ cs[i * 6 + 2]? = some (.string gs[i].loc) /\ cs[i * 6 + 3]? = some av /\ cs[i * 6 + 4]? = some (.string gs[i].txt) /\ cs[i * 6 + 5]? = some (.int .i64 gs[i].pos) := by
 intro gs
 induction gs with
 | nil => intro cs _ i h; exact absurd h (Nat.not_lt_zero _)
 | cons g gs ih =>
  rintro cs ⟨av, rest, rfl, h2, h3⟩ i hi
  cases i with
  | zero => exact ⟨av, h2, rfl, rfl, rfl, rfl, rfl, rfl⟩
  | succ i =>
   obtain ⟨av', e0, e1, e2, e3, e4, e5, e6⟩ := ih h3 i (by simpa using hi)
   refine ⟨av', e0, ?_⟩
   rw [show (i + 1) * 6 = i * 6 + 6 by omega]
   have hg : ∀ k, (gtCells g av ++ rest)[i * 6 + 6 + k]? = rest[i * 6 + k]? := fun k => by
    rw [List.getElem?_append_right (by simp [gtCells]; omega)]
    congr 1
    simp [gtCells]; omega
   exact ⟨(hg 0).trans e1, (hg 1).trans e2, (hg 2).trans e3, (hg 3).trans e4, (hg 4).trans e5, (hg 5).trans e6⟩
theorem RowG.get {w : World} {lv : Value} {gs : List GT} (h : RowG w lv gs) (i : Nat) (hi : i < gs.length) : ∃ g cap pa ca, lv = .slice (some ⟨g, 0, none⟩) (gs.length : Nat) cap /\ gs.length <= cap /\ AttrG w (fun k => k ≠ g) (.slice pa (gs[i].ats.length : Nat) ca) gs[i].ats /\ w.cell? ⟨g, i * 6, none⟩ = some (.int .i64 gs[i].kind) /\ w.cell? ⟨g, i * 6 + 1, none⟩ = some (.string gs[i].sp) /\ w.cell? ⟨g, i * 6 + 2, none⟩ = some (.string gs[i].loc) /\ w.cell? ⟨g, i * 6 + 3, none⟩ = some (.slice pa (gs[i].ats.length : Nat) ca) /\ w.cell? ⟨g, i * 6 + 4, none⟩ = some (.string gs[i].txt) /\ w.cell? ⟨g, i * 6 + 5, none⟩ = some (.int .i64 gs[i].pos) := by
 obtain ⟨cs, h1, h2⟩ := h.ex
 obtain ⟨g, cap, hv, hle, hc⟩ := ownsRow_some h1 (by omega)
 obtain ⟨av, e0, e1, e2, e3, e4, e5, e6⟩ := h2.get i hi
 obtain ⟨pa, ca, hav⟩ := ownsRow_shape e0.row
 rw [hav] at e0 e4
 refine ⟨g, cap, pa, ca, hv, hle, ⟨e0.row, fun k hk e => e0.own k hk (by rw [hv, e]; rfl), e0.len⟩, hc _ _ e1, hc _ _ e2, hc _ _ e3, hc _ _ e4, hc _ _ e5, hc _ _ e6⟩
theorem RowG.shape {w : World} {lv : Value} {gs : List GT} (h : RowG w lv gs) : ∃ pa ca, lv = .slice pa (gs.length : Nat) ca := by
 obtain ⟨cs, h1, h2⟩ := h.ex
 exact ownsRow_shape h1
theorem AttrG.get {w : World} {A : Nat -> Prop} {pa : Option Addr} {ca : Nat} {ats : List (ByteArray × ByteArray × ByteArray)} (h : AttrG w A (.slice pa (ats.length : Nat) ca) ats) (i : Nat) (hi : i < ats.length) : ∃ g, pa = some ⟨g, 0, none⟩ /\ ats.length <= ca /\ w.cell? ⟨g, i * 3, none⟩ = some (.string ats[i].1) /\ w.cell? ⟨g, i * 3 + 1, none⟩ = some (.string ats[i].2.1) /\ w.cell? ⟨g, i * 3 + 2, none⟩ = some (.string ats[i].2.2) := by
 obtain ⟨g, cap, hv, hle, hc⟩ := ownsRow_some h.row (by omega)
 obtain ⟨x1, x2, x3⟩ := atsC_get ats i hi
 injection hv with hv1 _ hv3
 exact ⟨g, hv1, by omega, hc _ _ x1, hc _ _ x2, hc _ _ x3⟩
theorem map_len {gs : List GT} {tks : List Tk} (h : gs.map GT.er = tks.map gtOf) : gs.length = tks.length := by
 have := congrArg List.length h; simpa using this
def kvA (kv : List (List Nat × List Nat)) : List (ByteArray × ByteArray × ByteArray) := kv.map fun x => ((⟨#[]⟩ : ByteArray), nameB x.1, nameB x.2)
theorem gtOf_all (tk : Tk) : gtOf tk = ⟨tk.kind, ⟨#[]⟩, tk.loc, kvA tk.kv, tk.text, 0⟩ := by cases tk <;> rfl
theorem er_eq {a b : GT} (h : a.er = b.er) : a.kind = b.kind /\ a.sp = b.sp /\ a.loc = b.loc /\ a.ats = b.ats /\ a.txt = b.txt := by
 obtain ⟨k1, s1, l1, t1, x1, p1⟩ := a
 obtain ⟨k2, s2, l2, t2, x2, p2⟩ := b
 simp [GT.er] at h
 exact h
end
section
open Go.RowKit
structure AtL (w : World) (av : Value) (ats : List (ByteArray × ByteArray × ByteArray)) : Prop where
 ex : ∃ (p : Option Addr) (cap : Nat), av = .slice p (ats.length : Nat) cap /\ ats.length <= cap /\ ats.length <= 549755813888 /\ ∀ (i : Nat) (h : i < ats.length), ∃ g o, p = some ⟨g, o, none⟩ /\ w.cell? ⟨g, o + i * 3, none⟩ = some (.string ats[i].1) /\ w.cell? ⟨g, o + i * 3 + 1, none⟩ = some (.string ats[i].2.1) /\ w.cell? ⟨g, o + i * 3 + 2, none⟩ = some (.string ats[i].2.2)
structure LG (w : World) (lv : Value) (gs : List GT) : Prop where
 ex : ∃ (p : Option Addr) (cap : Nat), lv = .slice p (gs.length : Nat) cap /\ ∀ (i : Nat) (h : i < gs.length), ∃ g o av, p = some ⟨g, o, none⟩ /\ AtL w av gs[i].ats /\ w.cell? ⟨g, o + i * 6, none⟩ = some (.int .i64 gs[i].kind) /\ w.cell? ⟨g, o + i * 6 + 1, none⟩ = some (.string gs[i].sp) /\ w.cell? ⟨g, o + i * 6 + 2, none⟩ = some (.string gs[i].loc) /\ w.cell? ⟨g, o + i * 6 + 3, none⟩ = some av /\ w.cell? ⟨g, o + i * 6 + 4, none⟩ = some (.string gs[i].txt) /\ w.cell? ⟨g, o + i * 6 + 5, none⟩ = some (.int .i64 gs[i].pos)
theorem AtL.old {w w' : World} {av : Value} {ats : List (ByteArray × ByteArray × ByteArray)} (h : AtL w av ats) (f : Old w w') : AtL w' av ats := by
 obtain ⟨p, cap, h1, h2, h3, h4⟩ := h.ex
 refine ⟨p, cap, h1, h2, h3, fun i hi => ?_⟩
 obtain ⟨g, o, e0, e1, e2, e3⟩ := h4 i hi
 exact ⟨g, o, e0, f.cell e1, f.cell e2, f.cell e3⟩
theorem LG.old {w w' : World} {lv : Value} {gs : List GT} (h : LG w lv gs) (f : Old w w') : LG w' lv gs := by
 obtain ⟨p, cap, h1, h4⟩ := h.ex
 refine ⟨p, cap, h1, fun i hi => ?_⟩
 obtain ⟨g, o, av, e0, ea, e1, e2, e3, e4, e5, e6⟩ := h4 i hi
 exact ⟨g, o, av, e0, ea.old f, f.cell e1, f.cell e2, f.cell e3, f.cell e4, f.cell e5, f.cell e6⟩
theorem AtL.shape {w : World} {av : Value} {ats : List (ByteArray × ByteArray × ByteArray)} (h : AtL w av ats) : ∃ p cap, av = .slice p (ats.length : Nat) cap /\ ats.length <= cap /\ ats.length <= 549755813888 := by
 obtain ⟨p, cap, h1, h2, h3, _⟩ := h.ex
 exact ⟨p, cap, h1, h2, h3⟩
theorem AtL.get {w : World} {p : Option Addr} {n cap : Nat} {ats : List (ByteArray × ByteArray × ByteArray)} (h : AtL w (.slice p n cap) ats) (i : Nat) (hi : i < ats.length) : ∃ g o, p = some ⟨g, o, none⟩ /\ w.cell? ⟨g, o + i * 3, none⟩ = some (.string ats[i].1) /\ w.cell? ⟨g, o + i * 3 + 1, none⟩ = some (.string ats[i].2.1) /\ w.cell? ⟨g, o + i * 3 + 2, none⟩ = some (.string ats[i].2.2) := by
 obtain ⟨p', cap', h1, _, _, h4⟩ := h.ex
 injection h1 with h1 _ _
 subst h1
 exact h4 i hi
theorem LG.shape {w : World} {lv : Value} {gs : List GT} (h : LG w lv gs) : ∃ p cap, lv = .slice p (gs.length : Nat) cap := by
 obtain ⟨p, cap, h1, _⟩ := h.ex
 exact ⟨p, cap, h1⟩
theorem LG.get {w : World} {p : Option Addr} {n cap : Nat} {gs : List GT} (h : LG w (.slice p n cap) gs) (i : Nat) (hi : i < gs.length) : ∃ g o pa ca, p = some ⟨g, o, none⟩ /\ AtL w (.slice pa (gs[i].ats.length : Nat) ca) gs[i].ats /\ w.cell? ⟨g, o + i * 6, none⟩ = some (.int .i64 gs[i].kind) /\ w.cell? ⟨g, o + i * 6 + 1, none⟩ = some (.string gs[i].sp) /\ w.cell? ⟨g, o + i * 6 + 2, none⟩ = some (.string gs[i].loc) /\ w.cell? ⟨g, o + i * 6 + 3, none⟩ = some (.slice pa (gs[i].ats.length : Nat) ca) /\ w.cell? ⟨g, o + i * 6 + 4, none⟩ = some (.string gs[i].txt) /\ w.cell? ⟨g, o + i * 6 + 5, none⟩ = some (.int .i64 gs[i].pos) := by
 obtain ⟨p', cap', h1, h4⟩ := h.ex
 injection h1 with h1 _ _
 subst h1
 obtain ⟨g, o, av, e0, ea, e1, e2, e3, e4, e5, e6⟩ := h4 i hi
 obtain ⟨pa, ca, rfl, _, _⟩ := ea.shape
 exact ⟨g, o, pa, ca, e0, ea, e1, e2, e3, e4, e5, e6⟩
theorem AttrG.atl {w : World} {A : Nat -> Prop} {av : Value} {ats : List (ByteArray × ByteArray × ByteArray)} (h : AttrG w A av ats) : AtL w av ats := by
 by_cases h0 : ats.length = 0
 ·obtain ⟨p, c, hv⟩ := ownsRow_shape h.row
  exact ⟨p, c, hv, by omega, h.len, fun i hi => by omega⟩
 ·obtain ⟨g, cap, hv, hle, hc⟩ := ownsRow_some h.row (by omega)
  refine ⟨some ⟨g, 0, none⟩, cap, hv, hle, h.len, fun i hi => ?_⟩
  obtain ⟨x1, x2, x3⟩ := atsC_get ats i hi
  exact ⟨g, 0, rfl, by rw [Nat.zero_add]; exact hc _ _ x1, by rw [Nat.zero_add]; exact hc _ _ x2, by rw [Nat.zero_add]; exact hc _ _ x3⟩
theorem RowG.lg {w : World} {lv : Value} {gs : List GT} (h : RowG w lv gs) : LG w lv gs := by
 obtain ⟨p, c, hv⟩ := h.shape
 refine ⟨p, c, hv, fun i hi => ?_⟩
 obtain ⟨g, cap, pa, ca, hv2, _, hA, e1, e2, e3, e4, e5, e6⟩ := h.get i hi
 rw [hv] at hv2
 injection hv2 with h1 _ _
 exact ⟨g, 0, _, h1, hA.atl, by rw [Nat.zero_add]; exact e1, by rw [Nat.zero_add]; exact e2, by rw [Nat.zero_add]; exact e3, by rw [Nat.zero_add]; exact e4, by rw [Nat.zero_add]; exact e5, by rw [Nat.zero_add]; exact e6⟩
theorem fits7_do (a b c : ByteArray) (w : World) : Calls Tryz.prog 85 #[.agg #[.string a, .string b, .string c]] w fun e w' => ∃ r : Bool, e = .returned (.bool r) /\ Hid (Old w w') := by
 go_enter Tryz.func85, Tryz.ntmps85
 go_wp2
 all_goals (
  go_ret
  exact ⟨_, rfl, (Fr.refl _ w).alloc _⟩)
theorem fits6_do (w : World) (av : Value) (ats : List (ByteArray × ByteArray × ByteArray)) (h : AtL w av ats) : Calls Tryz.prog 44 #[av] w fun e w' => ∃ r : Bool, e = .returned (.bool r) /\ Hid (Old w w') := by
 obtain ⟨p, cap, rfl, _, hn⟩ := h.shape
 obtain ⟨n, hnn⟩ : ∃ n, n = ats.length := ⟨_, rfl⟩
 rw [<- hnn] at hn ⊢
 replace h := zz h
 replace hnn := zz hnn
 by_cases hb : 2147483647 < n
 ·have i1 : (2147483647 : Int) < (n : Int) := by omega
  go_enter Tryz.func44, Tryz.ntmps44
  go_wp2
  go_ret
  exact ⟨_, rfl, Fr.refl _ w⟩
 have i1 : ¬ (2147483647 : Int) < (n : Int) := by omega
 replace hb := zz hb
 go_enter Tryz.func44, Tryz.ntmps44
 go_wp2
 go_loopg [10] n (fun k u10 wr => ∃ i : Nat, u10 = .int .i64 i /\ i + k = n /\ Old w wr)
 case atStart => exact ⟨0, rfl, by omega, Fr.refl _ w⟩
 case round =>
  obtain ⟨i, rfl, hik, hO⟩ := hrel
  by_cases hi : i < n
  ·obtain ⟨g, o, rfl, e1, e2, e3⟩ := (h.out.old hO).get i (by rw [<- hnn.out]; exact hi)
   generalize ats[i]'(by rw [<- hnn.out]; exact hi) = x at e1 e2 e3
   obtain ⟨a, b, c⟩ := x
   dsimp only at e1 e2 e3
   have hi2 : (i : Int) < (n : Int) := by omega
   have hI : IntKind.i64.wrap ((i : Int) + 1) = ((i + 1 : Nat) : Int) := by rw [IntWalk.i64_in _ (by omega)]; omega
   obtain ⟨W1, hW1⟩ : ∃ W1, W1 = wr.alloc (.cells #[.string a, .string b, .string c] 30) := ⟨_, rfl⟩
   have hO1 : Old w W1 := by rw [hW1]; exact hO.alloc _
   have hb1 : Blk W1 wr.heap.size #[.string a, .string b, .string c] 30 := by rw [hW1]; exact Blk.new wr _ _
   have hc := (fits7_do a b c W1).mono (R' := fun e w' => ∃ r : Bool, e = .returned (.bool r) /\ Hid (Old w w')) (fun e w' x => by obtain ⟨r, h1, h2⟩ := x; exact ⟨r, h1, hO1.old h2.out⟩)
   generalize hR : wr.heap.size = Rr at *
   have y0 : W1.cell? ⟨Rr, 0, none⟩ = some (.string a) := by rw [hb1.cell]; rfl
   have y1 : W1.cell? ⟨Rr, 1, none⟩ = some (.string b) := by rw [hb1.cell]; rfl
   have y2 : W1.cell? ⟨Rr, 2, none⟩ = some (.string c) := by rw [hb1.cell]; rfl
   replace hc := zz hc
   replace hik := zz hik
   clear hb1 hO1 hO
   go_upto_region 6 with fail
   rw [<- hW1]
   replace hW1 := zz hW1
   replace hR := zz hR
   go_upto_if 16 with (go_at_call 85; refine hc.out.mono ?_; rintro e w2 ⟨r, rfl, k2⟩)
   cases r with
   | true =>
    go_wp2
    go_roundg (gk - 1)
    case measure => have := hik.out; omega
    case rel => exact ⟨i + 1, rfl, by have := hik.out; omega, k2.out⟩
   | false =>
    go_wp2
    go_ret
    exact ⟨_, rfl, k2.out⟩
  ·have hi2 : ¬ (i : Int) < (n : Int) := by omega
   replace hO := zz hO
   go_wp2
   go_ret
   exact ⟨.inr rfl, hO.out⟩
theorem fits5_do (w : World) (kind pos : Int) (sp loc txt : ByteArray) (pa : Option Addr) (na ca : Nat) (ats : List (ByteArray × ByteArray × ByteArray)) (h : AtL w (.slice pa na ca) ats) : Calls Tryz.prog 19 #[.agg #[.int .i64 kind, .string sp, .string loc, .slice pa na ca, .string txt, .int .i64 pos]] w fun e w' => ∃ r : Bool, e = .returned (.bool r) /\ Hid (Old w w') := by
 obtain ⟨W1, hW1⟩ : ∃ W1, W1 = w.alloc (.cells #[.int .i64 kind, .string sp, .string loc, .slice pa na ca, .string txt, .int .i64 pos] 28) := ⟨_, rfl⟩
 have hO1 : Old w W1 := by rw [hW1]; exact (Fr.refl _ w).alloc _
 have hb1 : Blk W1 w.heap.size #[.int .i64 kind, .string sp, .string loc, .slice pa na ca, .string txt, .int .i64 pos] 28 := by rw [hW1]; exact Blk.new w _ _
 have hc := (fits6_do W1 (.slice pa na ca) ats (h.old hO1)).mono (R' := fun e w' => ∃ r : Bool, e = .returned (.bool r) /\ w'.cell? ⟨w.heap.size, 4, none⟩ = some (.string txt) /\ Hid (Old w w')) (fun e w' x => by
  obtain ⟨r, h1, h2⟩ := x
  refine ⟨r, h1, ?_, hO1.old h2.out⟩
  rw [(hb1.keep h2.out (fun h => h)).cell]; rfl)
 generalize hR : w.heap.size = Rr at *
 have y1 : W1.cell? ⟨Rr, 1, none⟩ = some (.string sp) := by rw [hb1.cell]; rfl
 have y2 : W1.cell? ⟨Rr, 2, none⟩ = some (.string loc) := by rw [hb1.cell]; rfl
 have y3 : W1.cell? ⟨Rr, 3, none⟩ = some (.slice pa na ca) := by rw [hb1.cell]; rfl
 replace hO1 := zz hO1
 replace hc := zz hc
 clear hb1 h
 go_enter Tryz.func19, Tryz.ntmps19
 go_upto_region 1 with fail
 rw [<- hW1]
 replace hW1 := zz hW1
 replace hR := zz hR
 go_wp2_with (go_at_call 44; refine hc.out.mono ?_; rintro e w2 ⟨r, rfl, y4, k2⟩)
 all_goals (
  go_ret
  first
   | exact ⟨_, rfl, k2.out⟩
   | exact ⟨_, rfl, hO1.out⟩)
theorem fits4_do (w : World) (lv : Value) (gs : List GT) (h : LG w lv gs) (hn : gs.length <= 549755813888) : Calls Tryz.prog 5 #[lv] w fun e w' => ∃ r : Bool, e = .returned (.bool r) /\ Hid (Old w w') := by
 obtain ⟨p, cap, rfl⟩ := h.shape
 obtain ⟨n, hnn⟩ : ∃ n, n = gs.length := ⟨_, rfl⟩
 rw [<- hnn] at hn ⊢
 replace h := zz h
 replace hnn := zz hnn
 by_cases hb : 2147483647 < n
 ·have i1 : (2147483647 : Int) < (n : Int) := by omega
  go_enter Tryz.func5, Tryz.ntmps5
  go_wp2
  go_ret
  exact ⟨_, rfl, Fr.refl _ w⟩
 have i1 : ¬ (2147483647 : Int) < (n : Int) := by omega
 replace hb := zz hb
 go_enter Tryz.func5, Tryz.ntmps5
 go_wp2
 go_loopg [10] n (fun k u10 wr => ∃ i : Nat, u10 = .int .i64 i /\ i + k = n /\ Old w wr)
 case atStart => exact ⟨0, rfl, by omega, Fr.refl _ w⟩
 case round =>
  obtain ⟨i, rfl, hik, hO⟩ := hrel
  by_cases hi : i < n
  ·obtain ⟨g, o, pa, ca, rfl, hA, e1, e2, e3, e4, e5, e6⟩ := (h.out.old hO).get i (by rw [<- hnn.out]; exact hi)
   generalize gs[i]'(by rw [<- hnn.out]; exact hi) = x at hA e1 e2 e3 e4 e5 e6
   obtain ⟨kind, sp, loc, ats, txt, pos⟩ := x
   dsimp only at hA e1 e2 e3 e4 e5 e6
   generalize hna : ats.length = na at *
   have hi2 : (i : Int) < (n : Int) := by omega
   have hI : IntKind.i64.wrap ((i : Int) + 1) = ((i + 1 : Nat) : Int) := by rw [IntWalk.i64_in _ (by omega)]; omega
   obtain ⟨W1, hW1⟩ : ∃ W1, W1 = wr.alloc (.cells #[.int .i64 kind, .string sp, .string loc, .slice pa na ca, .string txt, .int .i64 pos] 28) := ⟨_, rfl⟩
   have hO1 : Old wr W1 := by rw [hW1]; exact (Fr.refl _ wr).alloc _
   have hb1 : Blk W1 wr.heap.size #[.int .i64 kind, .string sp, .string loc, .slice pa na ca, .string txt, .int .i64 pos] 28 := by rw [hW1]; exact Blk.new wr _ _
   have hc := (fits5_do W1 kind pos sp loc txt pa na ca ats (hA.old hO1)).mono (R' := fun e w' => ∃ r : Bool, e = .returned (.bool r) /\ Hid (Old w w')) (fun e w' x => by obtain ⟨r, h1, h2⟩ := x; exact ⟨r, h1, (hO.old hO1).old h2.out⟩)
   generalize hR : wr.heap.size = Rr at *
   have y0 : W1.cell? ⟨Rr, 0, none⟩ = some (.int .i64 kind) := by rw [hb1.cell]; rfl
   have y1 : W1.cell? ⟨Rr, 1, none⟩ = some (.string sp) := by rw [hb1.cell]; rfl
   have y2 : W1.cell? ⟨Rr, 2, none⟩ = some (.string loc) := by rw [hb1.cell]; rfl
   have y3 : W1.cell? ⟨Rr, 3, none⟩ = some (.slice pa na ca) := by rw [hb1.cell]; rfl
   have y4 : W1.cell? ⟨Rr, 4, none⟩ = some (.string txt) := by rw [hb1.cell]; rfl
   have y5 : W1.cell? ⟨Rr, 5, none⟩ = some (.int .i64 pos) := by rw [hb1.cell]; rfl
   replace hc := zz hc
   replace hik := zz hik
   replace hA := zz hA
   replace hna := zz hna
   clear hb1 hO1 hO
   go_upto_region 6 with fail
   rw [<- hW1]
   replace hW1 := zz hW1
   replace hR := zz hR
   go_upto_if 16 with (go_at_call 19; refine hc.out.mono ?_; rintro e w2 ⟨r, rfl, k2⟩)
   cases r with
   | true =>
    go_wp2
    go_roundg (gk - 1)
    case measure => have := hik.out; omega
    case rel => exact ⟨i + 1, rfl, by have := hik.out; omega, k2.out⟩
   | false =>
    go_wp2
    go_ret
    exact ⟨_, rfl, k2.out⟩
  ·have hi2 : ¬ (i : Int) < (n : Int) := by omega
   replace hO := zz hO
   go_wp2
   go_ret
   exact ⟨.inr rfl, hO.out⟩
end
section
open Go.RowKit
theorem TokL.get8 {w : World} {A : Nat -> Prop} : ∀ {tks : List Tk} {cs : List Value}, TokL w A tks cs -> ∀ (i : Nat) (h : i < tks.length), ∃ av o l c, AttrV w A tks[i] av /\ cs[i * 8]? = some (.int .i64 tks[i].kind) /\ cs[i * 8 + 1]? = some (.string ⟨#[]⟩) /\ cs[i * 8 + 2]? = some (.string tks[i].loc) /\ cs[i * 8 + 3]? = some av /\ cs[i * 8 + 4]? = some (.string tks[i].text) /\ cs[i * 8 + 5]? = some (.int .i64 o) /\ cs[i * 8 + 6]? = some (.int .i64 l) /\ cs[i * 8 + 7]? = some (.int .i64 c) := by
 intro tks
 induction tks with
 | nil => intro cs _ i h; exact absurd h (Nat.not_lt_zero _)
 | cons tk tks ih =>
  rintro cs ⟨av, o, l, c, rest, rfl, h2, h3⟩ i hi
  cases i with
  | zero => exact ⟨av, o, l, c, h2, rfl, rfl, rfl, rfl, rfl, rfl, rfl, rfl⟩
  | succ i =>
   obtain ⟨av', o', l', c', e0, e1, e2, e3, e4, e5, e6, e7, e8⟩ := ih h3 i (by simpa using hi)
   refine ⟨av', o', l', c', e0, ?_⟩
   rw [show (i + 1) * 8 = i * 8 + 8 by omega]
   have hg : ∀ k, (tokCells tk av o l c ++ rest)[i * 8 + 8 + k]? = rest[i * 8 + k]? := fun k => by
    rw [List.getElem?_append_right (by simp [tokCells]; omega)]
    congr 1
    simp [tokCells]; omega
   exact ⟨(hg 0).trans e1, (hg 1).trans e2, (hg 2).trans e3, (hg 3).trans e4, (hg 4).trans e5, (hg 5).trans e6, (hg 6).trans e7, (hg 7).trans e8⟩
structure PlnS (w : World) (tks : List Tk) (i : Nat) (v : Value) (wr : World) : Prop where
 old : Old w wr
 ex : ∃ cs gs, wr.ownsRow 0 28 6 v i cs /\ TokG wr (fun k => w.heap.size <= k /\ v.ownBlock ≠ some k) gs cs /\ gs.length = i /\ gs.map GT.er = (tks.take i).map gtOf
 own : ∀ k, v.ownBlock = some k -> w.heap.size <= k
theorem PlnS.of_old {w wr w2 : World} {tks : List Tk} {i : Nat} {v : Value} (h : PlnS w tks i v wr) (f : Old wr w2) : PlnS w tks i v w2 := by
 obtain ⟨cs, gs, h1, h2, h3, h4⟩ := h.ex
 exact ⟨h.old.trans f (fun _ h => .inl h), ⟨cs, gs, ownsRow_frame h1 f (fun _ _ h => h), h2.keep f (fun k _ hk => ⟨fun h => h, hk⟩), h3, h4⟩, h.own⟩
theorem PlnS.app {w wr w2 : World} {tks : List Tk} {i : Nat} {v : Value} (h : PlnS w tks i v wr) {cs : List Value} {gs : List GT} (hT : TokG wr (fun k => w.heap.size <= k /\ v.ownBlock ≠ some k) gs cs) (hgl : gs.length = i) (hge : gs.map GT.er = (tks.take i).map gtOf) (hi : i < tks.length) {o : Int} {av : Value} (hA : AttrG wr (fun k => w.heap.size <= k /\ v.ownBlock ≠ some k) av (kvA tks[i].kv)) {g' c' : Nat}
  (hrow : w2.ownsRow 0 28 6 (.slice (some ⟨g', 0, none⟩) (i + 1 : Nat) c') (i + 1) (cs ++ gtCells ⟨tks[i].kind, ⟨#[]⟩, tks[i].loc, kvA tks[i].kv, tks[i].text, o⟩ av)) (f : Fr (fun x => v.ownBlock = some x) wr w2) (hnb : v.ownBlock = some g' \/ wr.heap.size <= g') : PlnS w tks (i + 1) (.slice (some ⟨g', 0, none⟩) (i + 1 : Nat) c') w2 := by
 have ho : Old w w2 := h.old.trans f (fun x hx => .inr (h.own x hx))
 have hA2 : ∀ k, k < wr.heap.size -> (w.heap.size <= k /\ v.ownBlock ≠ some k) -> ¬ (v.ownBlock = some k) /\ (w.heap.size <= k /\ (Value.slice (some ⟨g', 0, none⟩) (i + 1 : Nat) c').ownBlock ≠ some k) := fun k hk hk2 => ⟨hk2.2, hk2.1, fun e => by
  have e2 : g' = k := by simpa [Value.ownBlock] using e
  rcases hnb with h1 | h1
  ·exact hk2.2 (by rw [h1, e2])
  ·omega⟩
 refine ⟨ho, ⟨_, gs ++ [⟨tks[i].kind, ⟨#[]⟩, tks[i].loc, kvA tks[i].kv, tks[i].text, o⟩], hrow, TokG.app (g := ⟨tks[i].kind, ⟨#[]⟩, tks[i].loc, kvA tks[i].kv, tks[i].text, o⟩) (hA.keep f hA2) (hT.keep f hA2), by simp [hgl], ?_⟩, fun k hk => ?_⟩
 ·rw [List.map_append, hge, List.take_succ_eq_append_getElem hi, List.map_append]
  simp only [List.map_cons, List.map_nil, gtOf_all]
  rfl
 ·have e2 : g' = k := by simpa [Value.ownBlock] using hk
  subst e2
  have := h.old.size
  rcases hnb with h1 | h1
  ·exact h.own _ h1
  ·omega
theorem plain_do (w : World) (base : Nat) (lv : Value) (tks : List Tk) (h : ToksAt w base lv tks) (hn : tks.length <= 300000) :
  Calls Tryz.prog 14 #[lv] w fun e w' => ∃ lv', e = .returned lv' /\ Hid (Old w w' /\ ∃ gs, RowG w' lv' gs /\ gs.map GT.er = tks.map gtOf) := by
 obtain ⟨ics, hrow, hTL⟩ := h.ex
 obtain ⟨pv, cv, rfl⟩ := ownsRow_shape hrow
 obtain ⟨N, hN⟩ : ∃ N, Hid (N = tks.length) := ⟨_, zz rfl⟩
 obtain ⟨i0, hi0, hz0, hz1, hz2⟩ := info_parts info28
 obtain ⟨j0, hj0, kz0, kz1, kz2⟩ := info_parts info30
 rw [<- hN.out] at hn ⊢
 replace h := zz h
 replace hrow := zz hrow
 replace hTL := zz hTL
 go_enter Tryz.func14, Tryz.ntmps14
 go_wp2
 go_loopg [3, 11] N (fun k u3 u11 wr => ∃ (i : Nat) (po : Option Addr) (co : Nat), u3 = .slice po (i : Nat) co /\ u11 = .int .i64 i /\ i + k = N /\ PlnS w tks i (.slice po (i : Nat) co) wr)
 case atStart => exact ⟨0, none, 0, rfl, rfl, by omega, Fr.refl _ _, ⟨[], [], World.ownsRow_nil _ _ _ _, rfl, rfl, rfl⟩, fun k hk => (by cases hk)⟩
 case round =>
  obtain ⟨i, po, co, rfl, rfl, hik, hS⟩ := hrel
  obtain ⟨W1, rfl⟩ : ∃ W1, W1 = wr := ⟨_, rfl⟩
  by_cases hi : i < N
  ·have hit : i < tks.length := by have := hN.out; omega
   obtain ⟨g, cap, hv, _, hc⟩ := ownsRow_some hrow.out (by omega)
   obtain rfl : pv = some ⟨g, 0, none⟩ := by injection hv
   obtain ⟨av, o, l, c, e0, e1, e2, e3, e4, e5, e6, e7, e8⟩ := hTL.out.get8 i hit
   obtain ⟨hrA, hMl⟩ := e0.row
   obtain ⟨tk, htk⟩ : ∃ tk, Hid (tk = tks[i]) := ⟨_, zz rfl⟩
   rw [<- htk.out] at hrA hMl e1 e3 e5
   obtain ⟨M, hM⟩ : ∃ M, Hid (M = tk.kv.length) := ⟨_, zz rfl⟩
   rw [<- hM.out] at hrA hMl
   obtain ⟨pa, ca, rfl⟩ := ownsRow_shape hrA
   obtain ⟨kind, hkind⟩ : ∃ x, Hid (x = tk.kind) := ⟨_, zz rfl⟩
   obtain ⟨loc, hloc⟩ : ∃ x, Hid (x = tk.loc) := ⟨_, zz rfl⟩
   obtain ⟨txt, htxt⟩ : ∃ x, Hid (x = tk.text) := ⟨_, zz rfl⟩
   rw [<- hkind.out] at e1
   rw [<- hloc.out] at e3
   rw [<- htxt.out] at e5
   have d1 := hS.old.cell (hc _ _ e1)
   have d2 := hS.old.cell (hc _ _ e2)
   have d3 := hS.old.cell (hc _ _ e3)
   have d4 := hS.old.cell (hc _ _ e4)
   have d5 := hS.old.cell (hc _ _ e5)
   have d6 := hS.old.cell (hc _ _ e6)
   have d7 := hS.old.cell (hc _ _ e7)
   have d8 := hS.old.cell (hc _ _ e8)
   have hi2 : (i : Int) < (N : Int) := by omega
   have hI : IntKind.i64.wrap ((i : Int) + 1) = ((i + 1 : Nat) : Int) := by rw [IntWalk.i64_in _ (by omega)]; omega
   obtain ⟨R, hR⟩ : ∃ R, R = W1.heap.size := ⟨_, rfl⟩
   obtain ⟨W2, hW2⟩ : ∃ W2, W2 = W1.alloc (.cells #[.int .i64 kind, .string ⟨#[]⟩, .string loc, .slice pa (M : Nat) ca, .string txt, .int .i64 o, .int .i64 l, .int .i64 c] 64) := ⟨_, rfl⟩
   have hb : Blk W2 R #[.int .i64 kind, .string ⟨#[]⟩, .string loc, .slice pa (M : Nat) ca, .string txt, .int .i64 o, .int .i64 l, .int .i64 c] 64 := by rw [hW2, hR]; exact Blk.new W1 _ _
   have hO12 : Old W1 W2 := by rw [hW2]; exact (Fr.refl _ W1).alloc _
   have hS2 : PlnS w tks i (.slice po (i : Nat) co) W2 := hS.of_old hO12
   have hwR : w.heap.size <= R := by rw [hR]; exact hS.old.size
   have hown : ∀ k, (Value.slice po (i : Nat) co).ownBlock = some k -> k < R := fun k hk => by
    obtain ⟨cs, gs, h1, _⟩ := hS.ex
    rw [hR]; exact ownsRow_lt h1 hk
   have hR2 : R < W2.heap.size := hb.lt
   have y3 : W2.cell? ⟨R, 3, none⟩ = some (.slice pa (M : Nat) ca) := by rw [hb.cell]; rfl
   replace hS := zz hS
   replace hS2 := zz hS2
   replace hrA := zz hrA
   replace hb := zz hb
   replace hik := zz hik
   replace hI := zz hI
   replace hown := zz hown
   replace hO12 := zz hO12
   clear e0 e1 e2 e3 e4 e5 e6 e7 e8 hv hc
   go_upto_region 6 with fail
   rw [<- hW2, <- hR]
   replace hW2 := zz hW2
   replace hR := zz hR
   clear d1 d2 d3 d4 d5 d6 d7 d8
   obtain ⟨ko, rfl⟩ : ∃ ko, ko = gk := ⟨_, rfl⟩
   go_wp2
   go_loopg [6, 18] M (fun k u6 u18 wr => ∃ (j : Nat) (p6 : Option Addr) (c6 : Nat), u6 = .slice p6 (j : Nat) c6 /\ u18 = .int .i64 j /\ j + k = M /\ Old W2 wr /\ wr.ownsRow 0 30 3 (.slice p6 (j : Nat) c6) j (atsC (kvA (tk.kv.take j))) /\ ∀ k, (Value.slice p6 (j : Nat) c6).ownBlock = some k -> W2.heap.size <= k)
   case atStart => exact ⟨0, none, 0, rfl, rfl, by omega, Fr.refl _ _, World.ownsRow_nil _ _ _ _, fun k hk => (by cases hk)⟩
   case round =>
    obtain ⟨j, p6, c6, rfl, rfl, hjk, hO3, hrow6, hown6⟩ := hrel
    obtain ⟨W3, rfl⟩ : ∃ W3, W3 = wr := ⟨_, rfl⟩
    by_cases hj : j < M
    ·have hjt : j < tk.kv.length := by have := hM.out; omega
     obtain ⟨ga, capa, hva, _, hca⟩ := ownsRow_some hrA.out (by omega)
     obtain rfl : pa = some ⟨ga, 0, none⟩ := by injection hva
     obtain ⟨x1, x2, x3⟩ := kv_cells tk.kv j hjt
     have hOw : Old w W3 := (hS.out.old.trans hO12.out (fun _ h => .inl h)).trans hO3 (fun _ h => .inl h)
     have q0 := hOw.cell (hca _ _ x1)
     have q1 := hOw.cell (hca _ _ x2)
     have q2 := hOw.cell (hca _ _ x3)
     have htake : atsC (kvA (tk.kv.take (j + 1))) = atsC (kvA (tk.kv.take j)) ++ [.string ⟨#[]⟩, .string (nameB tk.kv[j].1), .string (nameB tk.kv[j].2)] := by
      have e : tk.kv.take (j + 1) = tk.kv.take j ++ [tk.kv[j]] := List.take_succ_eq_append_getElem hjt
      rw [e]
      simp only [kvA, atsC, List.map_append, List.flatMap_append, List.map_cons, List.map_nil, List.flatMap_cons, List.flatMap_nil, List.append_nil]
     generalize nameB (tk.kv[j]'hjt).1 = lo at q1 htake
     generalize nameB (tk.kv[j]'hjt).2 = vl at q2 htake
     have hj2 : (j : Int) < (M : Int) := by omega
     have hJ : IntKind.i64.wrap ((j : Int) + 1) = ((j + 1 : Nat) : Int) := by rw [IntWalk.i64_in _ (by omega)]; omega
     have hnews : ∀ (m : Nat) (u : Value), [Value.string ⟨#[]⟩, .string lo, .string vl][m]? = some u -> ((W3.alloc (.cells #[.string ⟨#[]⟩, .string lo, .string vl] 73)).alloc (.cells #[.string ⟨#[]⟩, .string lo, .string vl] 30)).cell? ((⟨W3.heap.size + 1, 0, none⟩ : Addr).add m) = some u := by
      have h := news_alloc (W3.alloc (.cells #[.string ⟨#[]⟩, .string lo, .string vl] 73)) [.string ⟨#[]⟩, .string lo, .string vl] 30
      rw [show (W3.alloc (.cells #[.string ⟨#[]⟩, .string lo, .string vl] 73)).heap.size = W3.heap.size + 1 by simp] at h
      exact h
     replace hnews := zz hnews
     replace hJ := zz hJ
     replace hO3 := zz hO3
     replace hrow6 := zz hrow6
     replace hown6 := zz hown6
     replace hjk := zz hjk
     replace htake := zz htake
     clear hva hca x1 x2 x3 hOw
     go_wp2_with (at_builtin; refine wpList_append rfl _ _ 26 rfl 30 j0 _ 3 48 Tryz.underlying26 hj0 kz0 kz1 kz2 rfl (by decide) _ j _ (by rfl) (ownsRow_frame (F := fun _ => False) hrow6.out (((Fr.refl _ W3).alloc _).alloc _) (fun _ _ h => h)) _ 1 1 [.string ⟨#[]⟩, .string lo, .string vl] (by rfl) (by rfl) (by decide) hnews.out (by intro u hu; simp at hu; rcases hu with rfl | rfl | rfl <;> rfl) (by unfold maxLen; omega) (by omega) ?_; intro g' c' w12 hrow' hgrow hnb; have f12 := (((Fr.refl (fun x => (Value.slice p6 (j : Nat) c6).ownBlock = some x) W3).alloc _).alloc _).grown hgrow (fun k hk => Or.inl hk); replace hrow' := zz hrow'; replace hnb := zz hnb; replace f12 := zz f12; clear hgrow)
     go_roundg (gk - 1)
     case measure => have := hjk.out; omega
     case rel =>
      refine ⟨j + 1, some ⟨g', 0, none⟩, c', rfl, rfl, by have := hjk.out; omega, hO3.out.trans f12.out (fun x hx => .inr (hown6.out x hx)), by rw [htake.out]; exact hrow'.out, fun k hk => ?_⟩
      have e2 : g' = k := by simpa [Value.ownBlock] using hk
      subst e2
      rcases hnb.out with h1 | h1
      ·exact hown6.out _ h1
      ·have := hO3.out.size; simp at h1; omega
    ·have hjM : j = M := by omega
     subst hjM
     have hj2 : ¬ (j : Int) < (j : Int) := by omega
     have hb3 := hb.out.keep hO3 (fun h => h)
     have y0 : W3.cell? ⟨R, 0, none⟩ = some (.int .i64 kind) := by rw [hb3.cell]; rfl
     have y1 : W3.cell? ⟨R, 1, none⟩ = some (.string ⟨#[]⟩) := by rw [hb3.cell]; rfl
     have y2 : W3.cell? ⟨R, 2, none⟩ = some (.string loc) := by rw [hb3.cell]; rfl
     have y4 : W3.cell? ⟨R, 4, none⟩ = some (.string txt) := by rw [hb3.cell]; rfl
     have y5 : W3.cell? ⟨R, 5, none⟩ = some (.int .i64 o) := by rw [hb3.cell]; rfl
     have hS3 : PlnS w tks i (.slice po (i : Nat) co) W3 := hS2.out.of_old hO3
     obtain ⟨cs, gs, g1, g2, g3, g4⟩ := hS3.ex
     have hkl : (kvA tk.kv).length = j := by rw [hM.out]; simp [kvA]
     have hAG : AttrG W3 (fun k => w.heap.size <= k /\ (Value.slice po (i : Nat) co).ownBlock ≠ some k) (.slice p6 (j : Nat) c6) (kvA tk.kv) := by
      refine ⟨?_, fun k hk => ?_, by rw [hkl]; omega⟩
      ·rw [hkl]
       rw [hM.out, List.take_length] at hrow6
       rw [hM.out]; exact hrow6
      ·have h1 := hown6 k hk
       exact ⟨by omega, fun e => by have := hown.out k e; omega⟩
     have happ : ∀ (w12 : World) (g' c' : Nat), w12.ownsRow 0 28 6 (.slice (some ⟨g', 0, none⟩) (i + 1 : Nat) c') (i + 1) (cs ++ [.int .i64 kind, .string ⟨#[]⟩, .string loc, .slice p6 (j : Nat) c6, .string txt, .int .i64 o]) -> Fr (fun x => (Value.slice po (i : Nat) co).ownBlock = some x) W3 w12 -> ((Value.slice po (i : Nat) co).ownBlock = some g' \/ W3.heap.size <= g') -> PlnS w tks (i + 1) (.slice (some ⟨g', 0, none⟩) (i + 1 : Nat) c') w12 := fun w12 g' c' er ef en => by
      refine hS3.app g2 g3 g4 hit (o := o) (av := .slice p6 (j : Nat) c6) (by rw [<- htk.out]; exact hAG) ?_ ef en
      rw [<- htk.out, <- hkind.out, <- hloc.out, <- htxt.out]
      exact er
     replace happ := zz happ
     replace g1 := zz g1
     replace hb3 := zz hb3
     clear hO3 hjk hrow6 hown6 hS3 g2 g3 g4 hAG hkl
     go_wp2_with (at_builtin; refine wpList_append rfl _ _ 22 rfl 28 i0 _ 6 88 Tryz.underlying22 hi0 hz0 hz1 hz2 rfl (by decide) _ i cs (by rfl) (ownsRow_frame (F := fun _ => False) g1.out ((Fr.refl _ W3).alloc _) (fun _ _ h => h)) _ 1 1 [.int .i64 kind, .string ⟨#[]⟩, .string loc, .slice p6 (j : Nat) c6, .string txt, .int .i64 o] (by rfl) (by rfl) (by decide) (news_alloc _ [.int .i64 kind, .string ⟨#[]⟩, .string loc, .slice p6 (j : Nat) c6, .string txt, .int .i64 o] 28) (by intro u hu; simp at hu; rcases hu with rfl | rfl | rfl | rfl | rfl | rfl <;> rfl) (by unfold maxLen; omega) (by omega) ?_; intro g' c' w12 hrow' hgrow hnb; have f12 := ((Fr.refl (fun x => (Value.slice po (i : Nat) co).ownBlock = some x) W3).alloc _).grown hgrow (fun k hk => Or.inl hk); replace hrow' := zz hrow'; replace hnb := zz hnb; replace f12 := zz f12; clear hgrow)
     go_roundg (ko - 1)
     case measure => have := hik.out; omega
     case rel => exact ⟨i + 1, some ⟨g', 0, none⟩, c', rfl, rfl, by have := hik.out; omega, happ.out w12 g' c' hrow'.out f12.out (hnb.out.imp id (fun h => by simp at h; omega))⟩
  ·have hi2 : ¬ (i : Int) < (N : Int) := by omega
   have hiN : i = N := by omega
   subst hiN
   replace hS := zz hS
   clear hik
   go_wp2
   go_ret
   obtain ⟨cs, gs, h1, h2, h3, h4⟩ := hS.out.ex
   refine ⟨_, rfl, hS.out.old, gs, ⟨cs, by rw [h3]; exact h1, h2.keep (Fr.refl (fun _ => False) W1) (fun k _ hk => ⟨fun h => h, hk.2⟩)⟩, ?_⟩
   rw [h4, hN.out, List.take_length]
end
end Go.Proofs.YtepbbahdhhjibaaGreatDoor
