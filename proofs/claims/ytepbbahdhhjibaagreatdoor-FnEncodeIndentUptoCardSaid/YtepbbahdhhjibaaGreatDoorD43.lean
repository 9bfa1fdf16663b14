/- own text -/
import Derived.Deep.CutBlock
import Derived.Test.YtepbbahdhhjibaaGreatDoorD42
namespace Go.Proofs.YtepbbahdhhjibaaGreatDoor
set_option linter.unusedSimpArgs false
set_option linter.unusedVariables false
set_option maxHeartbeats 8000000
set_option maxRecDepth 100000
open Go.RowKit
theorem holds_do (s p : ByteArray) (hs : s.size <= 1099511627776) (hp : p.size <= 100) (w : World) : Calls Tryz.prog 25 #[.string s, .string p] w fun e w' => ∃ r : Bool, e = .returned (.bool r) /\ Hid (w' = w) := by
 go_enter Tryz.func25, Tryz.ntmps25
 go_wp2
 go_loopg [5] (s.size + 1) (fun k u5 wr => ∃ i : Nat, u5 = .int .i64 i /\ i + k = s.size + 1 /\ wr = w)
 case atStart => exact ⟨0, rfl, by omega, rfl⟩
 case round =>
  obtain ⟨i, rfl, hik, rfl⟩ := hrel
  have i1 : IntKind.i64.wrap ((i : Int) + (p.size : Int)) = ((i + p.size : Nat) : Int) := by rw [IntWalk.i64_in _ (by omega)]; omega
  have i2 : IntKind.i64.wrap ((i : Int) + 1) = ((i + 1 : Nat) : Int) := by rw [IntWalk.i64_in _ (by omega)]; omega
  by_cases hi : i + p.size <= s.size
  ·have j1 : ((i + p.size : Nat) : Int) <= (s.size : Int) := by omega
   have j2 : (i : Int) <= ((i + p.size : Nat) : Int) := by omega
   have j3 : (0 : Int) <= (i : Int) := by omega
   generalize i + p.size = E at *
   replace hi := zz hi
   replace hik := zz hik
   cases hx : ((s.extract i E).toList == p.toList)
   ·go_wp2
    go_roundg (gk - 1)
    case measure => have := hik.out; omega
    case rel => exact ⟨i + 1, rfl, by have := hik.out; have := hi.out; omega, rfl⟩
   ·go_wp2
    go_ret
    exact ⟨true, rfl, rfl⟩
  ·have j1 : ¬ ((i + p.size : Nat) : Int) <= (s.size : Int) := by omega
   generalize i + p.size = E at *
   replace hi := zz hi
   go_wp2
   go_ret
   first | exact ⟨.inl rfl, rfl⟩ | exact .inl ⟨rfl, rfl⟩
def GT.isEl (g : GT) : Bool := g.kind == 1 || g.kind == 2
structure PlS (w : World) (gs : List GT) (v : Value) (m : Nat) (wr : World) : Prop where
 old : Old w wr
 ex : ∃ (tks : List Tk) (opn : List (List Nat)) (st : List (GT × Value)), (gs.filter GT.isEl).map GT.er = tks.map gtOf /\ (∀ t ∈ tks, t.el = true /\ tkOk t /\ ndKv t.kv) /\ nestL [] tks = some opn /\ m = st.length /\ wr.ownsRow 0 28 6 v m (st.flatMap fun x => gtCells x.1 x.2) /\ st.map (fun x => x.1.loc) = (opn.map nameB).reverse /\ (∀ x ∈ st, x.1.sp = ⟨#[]⟩) /\ ∀ nm ∈ opn, NameOk nm /\ (nb nm == [120, 109, 108, 110, 115]) = false
 own : ∀ k, v.ownBlock = some k -> w.heap.size <= k
 kd : ∀ g ∈ gs, 1 <= g.kind /\ g.kind <= 5
theorem PlS.of_old {w wr w2 : World} {gs : List GT} {v : Value} {m : Nat} (h : PlS w gs v m wr) (f : Old wr w2) : PlS w gs v m w2 := by
 obtain ⟨tks, opn, st, h1, h2, h3, h4, h5, h6⟩ := h.ex
 exact ⟨h.old.trans f (fun _ h => .inl h), ⟨tks, opn, st, h1, h2, h3, h4, ownsRow_frame h5 f (fun _ _ h => h), h6⟩, h.own, h.kd⟩
theorem PlS.start (w : World) : PlS w [] (.slice none 0 0) 0 w := ⟨Fr.refl _ _, ⟨[], [], [], rfl, fun t h => (by cases h), rfl, rfl, World.ownsRow_nil _ _ _ _, rfl, fun x h => (by cases h), fun x h => (by cases h)⟩, fun k hk => (by cases hk), fun g h => (by cases h)⟩
theorem PlS.skip {w wr : World} {gs : List GT} {v : Value} {m : Nat} (h : PlS w gs v m wr) {g : GT} (hk : g.kind = 3 \/ g.kind = 4 \/ g.kind = 5) : PlS w (gs ++ [g]) v m wr := by
 obtain ⟨tks, opn, st, h1, h2⟩ := h.ex
 have hf : GT.isEl g = false := by unfold GT.isEl; rcases hk with hk | hk | hk <;> rw [hk] <;> decide
 refine ⟨h.old, ⟨tks, opn, st, ?_, h2⟩, h.own, fun x hx => ?_⟩
 ·rw [List.filter_append, List.filter_cons, hf]
  simpa using h1
 ·rcases List.mem_append.1 hx with hx | hx
  ·exact h.kd x hx
  ·rw [List.mem_singleton.1 hx]
   rcases hk with hk | hk | hk <;> rw [hk] <;> decide
theorem nest_snoc {tks : List Tk} {o : List (List Nat)} {t : Tk} {o' : List (List Nat)} (h : nestL [] tks = some o) (ht : nestS o t = some o') : nestL [] (tks ++ [t]) = some o' := by
 rw [nestL_app, h, Option.bind_some]
 simp [nestL, ht]
theorem PlS.opened {w wr : World} {gs : List GT} {v : Value} {m : Nat} (h : PlS w gs v m wr) : ∃ xs, wr.ownsRow 0 28 6 v m xs /\ ∀ (w2 : World) (pos : Int) (nm : List Nat) (kv : List (List Nat × List Nat)) (ats : List (ByteArray × ByteArray × ByteArray)) (av : Value) (g' c' : Nat), NameOk nm -> (nb nm == [120, 109, 108, 110, 115]) = false -> AtsOk ats kv ->
  w2.ownsRow 0 28 6 (.slice (some ⟨g', 0, none⟩) (m + 1 : Nat) c') (m + 1) (xs ++ gtCells ⟨1, ⟨#[]⟩, nameB nm, ats, ⟨#[]⟩, pos⟩ av) -> Fr (fun x => v.ownBlock = some x) wr w2 -> (v.ownBlock = some g' \/ wr.heap.size <= g') ->
  PlS w (gs ++ [⟨1, ⟨#[]⟩, nameB nm, ats, ⟨#[]⟩, pos⟩]) (.slice (some ⟨g', 0, none⟩) (m + 1 : Nat) c') (m + 1) w2 := by
 obtain ⟨tks, opn, st, k1, k2, k3, k4, k5, k6, k7, k8⟩ := h.ex
 refine ⟨_, k5, fun w2 pos nm kv ats av g' c' h1 h2 h3 hrow f hnb => ?_⟩
 obtain ⟨e1, e2, e3⟩ := h3
 have hok : tkOk (.st nm kv) := ⟨h1, h2, e2⟩
 refine ⟨h.old.trans f (fun x hx => .inr (h.own x hx)), ⟨tks ++ [.st nm kv], nm :: opn, st ++ [(⟨1, ⟨#[]⟩, nameB nm, ats, ⟨#[]⟩, pos⟩, av)], ?_, fun t ht => ?_, nest_snoc k3 rfl, by simp [k4], ?_, ?_, fun x hx => ?_, fun x hx => ?_⟩, fun k hk => ?_, fun g hg => ?_⟩
 ·rw [List.filter_append, List.map_append, k1, List.map_append]
  congr 1
  rw [e1]; rfl
 ·rcases List.mem_append.1 ht with ht | ht
  ·exact k2 t ht
  ·rw [List.mem_singleton.1 ht]; exact ⟨rfl, hok, e3⟩
 ·rw [List.flatMap_append]
  simpa using hrow
 ·rw [List.map_append, k6]; simp
 ·rcases List.mem_append.1 hx with hx | hx
  ·exact k7 x hx
  ·rw [List.mem_singleton.1 hx]
 ·rcases List.mem_cons.1 hx with rfl | hx
  ·exact ⟨h1, h2⟩
  ·exact k8 x hx
 ·have e2 : g' = k := by simpa [Value.ownBlock] using hk
  subst e2
  have := h.old.size
  rcases hnb with h1 | h1
  ·exact h.own _ h1
  ·omega
 ·rcases List.mem_append.1 hg with hg | hg
  ·exact h.kd g hg
  ·rw [List.mem_singleton.1 hg]; exact ⟨(by decide : (1 : Int) <= 1), (by decide : (1 : Int) <= 5)⟩
theorem PlS.top {w wr : World} {gs : List GT} {v : Value} {m : Nat} (h : PlS w gs v m wr) (hm : 0 < m) : ∃ (g M cap : Nat) (nm : List Nat), m = M + 1 /\ v = .slice (some ⟨g, 0, none⟩) (M + 1 : Nat) cap /\ M + 1 <= cap /\ wr.cell? ⟨g, M * 6 + 1, none⟩ = some (.string ⟨#[]⟩) /\ wr.cell? ⟨g, M * 6 + 2, none⟩ = some (.string (nameB nm)) /\
  ∀ pos : Int, PlS w (gs ++ [⟨2, ⟨#[]⟩, nameB nm, [], ⟨#[]⟩, pos⟩]) (.slice (some ⟨g, 0, none⟩) (M : Nat) cap) M wr := by
 obtain ⟨tks, opn, st, k1, k2, k3, k4, k5, k6, k7, k8⟩ := h.ex
 obtain ⟨M, rfl⟩ : ∃ M, m = M + 1 := ⟨m - 1, by omega⟩
 rcases snoc_or st with rfl | ⟨st0, x, rfl⟩
 ·simp at k4
 ·have hMl : M = st0.length := by simpa using k4
  obtain ⟨g, cap, hv, hle, hc⟩ := ownsRow_some k5 (by omega)
  have hx6 : ∀ (l : List (GT × Value)), (l.flatMap fun x => gtCells x.1 x.2).length = l.length * 6 := by
   intro l
   induction l with
   | nil => rfl
   | cons y l ih => rw [List.flatMap_cons, List.length_append, ih, List.length_cons]; simp [gtCells]; omega
  have hcell : ∀ j u, (gtCells x.1 x.2)[j]? = some u -> wr.cell? ⟨g, M * 6 + j, none⟩ = some u := fun j u hu => by
   refine hc _ _ ?_
   rw [List.flatMap_append, List.getElem?_append_right (by rw [hx6]; omega), hx6, hMl, show st0.length * 6 + j - st0.length * 6 = j by omega]
   simpa using hu
  have hxs : x.1.sp = ⟨#[]⟩ := k7 x (by simp)
  cases opn with
  | nil => simp at k6
  | cons nm opn =>
   rw [List.map_append, List.map_cons, List.map_nil, List.map_cons, List.reverse_cons] at k6
   obtain ⟨k6a, k6b⟩ := List.append_inj' k6 rfl
   have hxl : x.1.loc = nameB nm := by simpa using k6b
   obtain ⟨n1, n2⟩ := k8 nm (by simp)
   refine ⟨g, M, cap, nm, rfl, hv, hle, by rw [<- hxs]; exact hcell 1 _ rfl, by rw [<- hxl]; exact hcell 2 _ rfl, fun pos => ?_⟩
   refine ⟨h.old, ⟨tks ++ [.en nm], opn, st0, ?_, fun t ht => ?_, nest_snoc k3 (by simp [nestS]), hMl, ?_, k6a, fun y hy => k7 y (by simp [hy]), fun y hy => k8 y (by simp [hy])⟩, fun k hk => h.own k (by rw [hv]; exact hk), fun g hg => ?_⟩
   ·rw [List.filter_append, List.map_append, k1, List.map_append]
    rfl
   ·rcases List.mem_append.1 ht with ht | ht
    ·exact k2 t ht
    ·rw [List.mem_singleton.1 ht]
     exact ⟨rfl, ⟨n1, n2⟩, fun i j hi => by cases hi⟩
   ·rw [hv, List.flatMap_append] at k5
    exact ownsRow_pop k5 (by rw [hx6, hMl])
   ·rcases List.mem_append.1 hg with hg | hg
    ·exact h.kd g hg
    ·rw [List.mem_singleton.1 hg]; exact ⟨(by decide : (1 : Int) <= 2), (by decide : (2 : Int) <= 5)⟩
def PlR (gs : List GT) : Prop := (∀ g ∈ gs, 1 <= g.kind /\ g.kind <= 5) /\ ∃ tks, (gs.filter GT.isEl).map GT.er = tks.map gtOf /\ (∀ t ∈ tks, t.el = true /\ tkOk t /\ ndKv t.kv) /\ nestL [] tks = some []
theorem PlS.fin {w wr : World} {gs : List GT} {v : Value} (h : PlS w gs v 0 wr) : PlR gs := by
 obtain ⟨tks, opn, st, k1, k2, k3, k4, k5, k6, k7, k8⟩ := h.ex
 have hst : st = [] := List.length_eq_zero_iff.1 k4.symm
 subst hst
 have ho : opn = [] := by simpa using k6
 subst ho
 exact ⟨h.kd, tks, k1, k2, k3⟩
theorem splain_do (w : World) (lv : Value) (gs : List GT) (h : LG w lv gs) (hn : gs.length <= 300000) (hsz : ∀ g ∈ gs, g.loc.size <= 549755813888 /\ g.txt.size <= 549755813888 /\ ∀ x ∈ g.ats, x.2.1.size <= 549755813888) :
  Calls Tryz.prog 6 #[lv, .bool false] w fun e w' => ∃ r : Bool, e = .returned (.bool r) /\ Hid (Old w w' /\ (r = true -> PlR gs)) := by
 obtain ⟨pv, cv, rfl⟩ := h.shape
 obtain ⟨N, hN⟩ : ∃ N, N = gs.length := ⟨_, rfl⟩
 obtain ⟨i0, hi0, hz0, hz1, hz2⟩ := info_parts info28
 rw [<- hN] at hn ⊢
 replace h := zz h
 replace hN := zz hN
 replace hsz := zz hsz
 go_enter Tryz.func6, Tryz.ntmps6
 go_wp2
 go_loopg [5, 11] N (fun k u5 u11 wr => ∃ (i : Nat) (po : Option Addr) (m co : Nat), u5 = .slice po (m : Nat) co /\ u11 = .int .i64 i /\ i + k = N /\ m <= i /\ PlS w (gs.take i) (.slice po (m : Nat) co) m wr)
 case atStart => exact ⟨0, none, 0, 0, rfl, rfl, by omega, Nat.le_refl _, PlS.start w⟩
 case round =>
  obtain ⟨i, po, m, co, rfl, rfl, hik, hmi, hS⟩ := hrel
  obtain ⟨W1, rfl⟩ : ∃ W1, W1 = wr := ⟨_, rfl⟩
  by_cases hi : i < N
  ·have hil : i < gs.length := by rw [<- hN.out]; exact hi
   obtain ⟨g, o, pa, ca, rfl, hA, e1, e2, e3, e4, e5, e6⟩ := h.out.get i hil
   have htk : gs.take (i + 1) = gs.take i ++ [gs[i]] := List.take_succ_eq_append_getElem hil
   obtain ⟨hlz, htz, haz⟩ := hsz.out _ (List.getElem_mem hil)
   generalize gs[i]'hil = T0 at *
   obtain ⟨kind, sp, loc, ats, txt, pos⟩ := T0
   dsimp only at hA e1 e2 e3 e4 e5 e6 hlz htz haz
   obtain ⟨M, hM⟩ : ∃ M, M = ats.length := ⟨_, rfl⟩
   obtain ⟨q1, q2, hsh, hMc, hMl⟩ := hA.shape
   injection hsh with hs1 _ hs2
   subst hs1 hs2
   rw [<- hM] at hA e4 hMc hMl
   replace e1 := hS.old.cell e1
   replace e2 := hS.old.cell e2
   replace e3 := hS.old.cell e3
   replace e4 := hS.old.cell e4
   replace e5 := hS.old.cell e5
   replace e6 := hS.old.cell e6
   have hi2 : (i : Int) < (N : Int) := by omega
   have hI : IntKind.i64.wrap ((i : Int) + 1) = ((i + 1 : Nat) : Int) := by rw [IntWalk.i64_in _ (by omega)]; omega
   obtain ⟨R, hR⟩ : ∃ R, R = W1.heap.size := ⟨_, rfl⟩
   obtain ⟨W2, hW2⟩ : ∃ W2, W2 = W1.alloc (.cells #[.int .i64 kind, .string sp, .string loc, .slice pa (M : Nat) ca, .string txt, .int .i64 pos] 28) := ⟨_, rfl⟩
   have hb : Blk W2 R #[.int .i64 kind, .string sp, .string loc, .slice pa (M : Nat) ca, .string txt, .int .i64 pos] 28 := by rw [hW2, hR]; exact Blk.new W1 _ _
   have hO12 : Old W1 W2 := by rw [hW2]; exact (Fr.refl _ W1).alloc _
   have hS2 : PlS w (gs.take i) (.slice po (m : Nat) co) m W2 := hS.of_old hO12
   have hA2 : AtL W2 (.slice pa (M : Nat) ca) ats := hA.old (hS.old.old hO12)
   have hyy : ∀ w2, Old W2 w2 -> w2.cell? ⟨R, 0, none⟩ = some (.int .i64 kind) /\ w2.cell? ⟨R, 1, none⟩ = some (.string sp) /\ w2.cell? ⟨R, 2, none⟩ = some (.string loc) /\ w2.cell? ⟨R, 3, none⟩ = some (.slice pa (M : Nat) ca) /\ w2.cell? ⟨R, 4, none⟩ = some (.string txt) /\ w2.cell? ⟨R, 5, none⟩ = some (.int .i64 pos) := fun w2 f => by
    have hb := hb.keep f (fun h => h)
    exact ⟨by rw [hb.cell]; rfl, by rw [hb.cell]; rfl, by rw [hb.cell]; rfl, by rw [hb.cell]; rfl, by rw [hb.cell]; rfl, by rw [hb.cell]; rfl⟩
   obtain ⟨y0, y1, y2, y3, y4, y5⟩ := hyy W2 (Fr.refl _ _)
   have hneat := (neat_do W2 kind pos sp loc txt pa M ca).mono (R' := fun e w' => ∃ r : Bool, e = .returned (.bool r) /\ (w'.cell? ⟨R, 0, none⟩ = some (.int .i64 kind) /\ w'.cell? ⟨R, 1, none⟩ = some (.string sp) /\ w'.cell? ⟨R, 2, none⟩ = some (.string loc) /\ w'.cell? ⟨R, 3, none⟩ = some (.slice pa (M : Nat) ca) /\ w'.cell? ⟨R, 4, none⟩ = some (.string txt) /\ w'.cell? ⟨R, 5, none⟩ = some (.int .i64 pos)) /\ Hid (Old W2 w' /\ (r = true -> (kind = 1 -> txt = ⟨#[]⟩) /\ (kind = 2 -> txt = ⟨#[]⟩ /\ M = 0)))) (fun e w' x => by obtain ⟨r, h1, h2⟩ := x; exact ⟨r, h1, hyy _ h2.out.1, h2⟩)
   replace hneat := zz hneat
   replace hik := zz hik
   replace hI := zz hI
   replace hS2 := zz hS2
   replace hA2 := zz hA2
   replace hyy := zz hyy
   replace htk := zz htk
   replace hmi := zz hmi
   replace hM := zz hM
   clear hA hb hS
   go_upto_region 5 with fail
   rw [<- hW2, <- hR]
   replace hW2 := zz hW2
   replace hR := zz hR
   clear e1 e2 e3 e4 e5 e6
   go_upto_if 17 with (go_at_call 20; refine hneat.out.mono ?_; rintro e w3 ⟨r, rfl, ⟨z0, z1, z2, z3, z4, z5⟩, k3⟩)
   have hO23 := k3.out.1
   have hOw : Old w w3 := hS2.out.old.old hO23
   cases r with
   | false =>
    replace hOw := zz hOw
    go_wp2
    go_ret
    first | exact .inl ⟨rfl, hOw.out⟩ | exact ⟨false, rfl, hOw.out, fun h => by cases h⟩
   | true =>
    obtain ⟨ht1, ht2⟩ := k3.out.2 (by first | rfl | trivial)
    have hS3 := hS2.out.of_old hO23
    have hA3 := hA2.out.old hO23
    have hyy3 : ∀ w2, Old w3 w2 -> w2.cell? ⟨R, 0, none⟩ = some (.int .i64 kind) /\ w2.cell? ⟨R, 1, none⟩ = some (.string sp) /\ w2.cell? ⟨R, 2, none⟩ = some (.string loc) /\ w2.cell? ⟨R, 3, none⟩ = some (.slice pa (M : Nat) ca) /\ w2.cell? ⟨R, 4, none⟩ = some (.string txt) /\ w2.cell? ⟨R, 5, none⟩ = some (.int .i64 pos) := fun w2 f => hyy.out w2 (hO23.old f)
    replace ht1 := zz ht1
    replace ht2 := zz ht2
    replace hS3 := zz hS3
    replace hA3 := zz hA3
    replace hyy3 := zz hyy3
    clear hO23 hOw k3
    have hI2 := hI.out
    have hret : ∀ wx, Old w3 wx -> Hid (Old w wx /\ (false = true -> PlR gs)) := fun wx f => ⟨hS3.out.old.old f, fun h => by cases h⟩
    replace hret := zz hret
    have hskip : (kind = 3 \/ kind = 4 \/ kind = 5) -> ∀ wx, Old w3 wx -> m <= i + 1 /\ PlS w (gs.take (i + 1)) (.slice po (m : Nat) co) m wx := fun hk wx f => by
     rw [htk.out]
     exact ⟨by have := hmi.out; omega, (hS3.out.of_old f).skip hk⟩
    replace hskip := zz hskip
    have hkk : kind = 1 \/ kind = 2 \/ kind = 3 \/ kind = 4 \/ kind = 5 \/ ((kind == 1) = false /\ (kind == 2) = false /\ (kind == 3) = false /\ (kind == 4) = false /\ (kind == 5) = false) := by
     by_cases h1 : kind = 1
     ·exact .inl h1
     by_cases h2 : kind = 2
     ·exact .inr (.inl h2)
     by_cases h3 : kind = 3
     ·exact .inr (.inr (.inl h3))
     by_cases h4 : kind = 4
     ·exact .inr (.inr (.inr (.inl h4)))
     by_cases h5 : kind = 5
     ·exact .inr (.inr (.inr (.inr (.inl h5))))
     exact .inr (.inr (.inr (.inr (.inr ⟨beq_eq_false_iff_ne.2 h1, beq_eq_false_iff_ne.2 h2, beq_eq_false_iff_ne.2 h3, beq_eq_false_iff_ne.2 h4, beq_eq_false_iff_ne.2 h5⟩))))
    clear y0 y1 y2 y3 y4 y5
    rcases hkk with rfl | rfl | rfl | rfl | rfl | ⟨x1, x2, x3, x4, x5⟩
    ·have htx := ht1.out rfl
     subst htx
     have hnd := (named_do w3 sp loc hlz).mono (R' := fun e w' => ∃ r : Bool, e = .returned (.bool r) /\ (w'.cell? ⟨R, 0, none⟩ = some (.int .i64 1) /\ w'.cell? ⟨R, 1, none⟩ = some (.string sp) /\ w'.cell? ⟨R, 2, none⟩ = some (.string loc) /\ w'.cell? ⟨R, 3, none⟩ = some (.slice pa (M : Nat) ca) /\ w'.cell? ⟨R, 4, none⟩ = some (.string ⟨#[]⟩) /\ w'.cell? ⟨R, 5, none⟩ = some (.int .i64 pos)) /\ Hid (Old w3 w' /\ (r = true -> sp = ⟨#[]⟩ /\ ∃ nm, NameOk nm /\ loc = nameB nm /\ (nb nm == [120, 109, 108, 110, 115]) = false))) (fun e w' x => by obtain ⟨r, h1, h2⟩ := x; exact ⟨r, h1, hyy3.out _ h2.out.1, h2⟩)
     have hat : ∀ w4, Old w3 w4 -> Calls Tryz.prog 22 #[.slice pa (M : Nat) ca, .bool false] w4 fun e w' => ∃ r : Bool, e = .returned (.bool r) /\ (w'.cell? ⟨R, 0, none⟩ = some (.int .i64 1) /\ w'.cell? ⟨R, 1, none⟩ = some (.string sp) /\ w'.cell? ⟨R, 2, none⟩ = some (.string loc) /\ w'.cell? ⟨R, 3, none⟩ = some (.slice pa (M : Nat) ca) /\ w'.cell? ⟨R, 4, none⟩ = some (.string ⟨#[]⟩) /\ w'.cell? ⟨R, 5, none⟩ = some (.int .i64 pos)) /\ Hid (Old w3 w' /\ (r = true -> ∃ kv, AtsOk ats kv)) := fun w4 f => by
      refine (attributes_do w4 pa M ca ats (hA3.out.old f) hM.out hMc hMl haz).mono ?_
      rintro e w' ⟨r, rfl, k⟩
      exact ⟨r, rfl, hyy3.out _ (f.old k.out.1), f.old k.out.1, k.out.2⟩
     replace hnd := zz hnd
     replace hat := zz hat
     have hml : m <= 300000 := by have := hmi.out; omega
     have happ : ∀ w5, Old w3 w5 -> (sp = ⟨#[]⟩ /\ ∃ nm, NameOk nm /\ loc = nameB nm /\ (nb nm == [120, 109, 108, 110, 115]) = false) -> (∃ kv, AtsOk ats kv) -> ∃ xs, w5.ownsRow 0 28 6 (.slice po (m : Nat) co) m xs /\ ∀ (w12 : World) (g' c' : Nat), w12.ownsRow 0 28 6 (.slice (some ⟨g', 0, none⟩) (m + 1 : Nat) c') (m + 1) (xs ++ [.int .i64 1, .string sp, .string loc, .slice pa (M : Nat) ca, .string ⟨#[]⟩, .int .i64 pos]) -> Fr (fun x => (Value.slice po (m : Nat) co).ownBlock = some x) w5 w12 -> ((Value.slice po (m : Nat) co).ownBlock = some g' \/ w5.heap.size <= g') -> m + 1 <= i + 1 /\ PlS w (gs.take (i + 1)) (.slice (some ⟨g', 0, none⟩) (m + 1 : Nat) c') (m + 1) w12 := fun w5 f hx hkv => by
      obtain ⟨rfl, nm, n1, rfl, n2⟩ := hx
      obtain ⟨kv, hkv⟩ := hkv
      obtain ⟨xs, x1, x2⟩ := (hS3.out.of_old f).opened
      refine ⟨xs, x1, fun w12 g' c' er ef en => ⟨by have := hmi.out; omega, ?_⟩⟩
      rw [htk.out]
      exact x2 w12 pos nm kv ats (.slice pa (M : Nat) ca) g' c' n1 n2 hkv er ef en
     replace happ := zz happ
     go_upto_if 36 with (first
      | (go_at_call 21; refine hnd.out.mono ?_; rintro e w4 ⟨_ | _, rfl, ⟨z0, z1, z2, z3, z4, z5⟩, k4⟩)
      | (go_at_call 22; refine (hat.out _ k4.out.1).mono ?_; rintro e w5 ⟨_ | _, rfl, ⟨v0, v1, v2, v3, v4, v5⟩, k5⟩))
     ·go_wp2
      go_ret
      first | exact ⟨false, rfl, hret.out _ k4.out.1⟩ | exact .inl ⟨rfl, (hret.out _ k4.out.1).out.1⟩
     ·go_wp2
      go_ret
      first | exact ⟨false, rfl, hret.out _ k5.out.1⟩ | exact .inl ⟨rfl, (hret.out _ k5.out.1).out.1⟩
     ·obtain ⟨xs, hrow5, happ5⟩ := happ.out w5 k5.out.1 (k4.out.2 (by first | rfl | trivial)) (k5.out.2 (by first | rfl | trivial))
      replace hrow5 := zz hrow5
      replace happ5 := zz happ5
      clear z0 z1 z2 z3 z4 z5
      go_wp2_with (at_builtin; refine wpList_append rfl _ _ 22 rfl 28 i0 _ 6 88 Tryz.underlying22 hi0 hz0 hz1 hz2 rfl (by decide) _ m xs (by rfl) (ownsRow_frame (F := fun _ => False) hrow5.out ((Fr.refl _ w5).alloc _) (fun _ _ h => h)) _ 1 1 [.int .i64 1, .string sp, .string loc, .slice pa (M : Nat) ca, .string ⟨#[]⟩, .int .i64 pos] (by rfl) (by rfl) (by decide) (news_alloc _ [.int .i64 1, .string sp, .string loc, .slice pa (M : Nat) ca, .string ⟨#[]⟩, .int .i64 pos] 28) (by intro u hu; simp at hu; rcases hu with rfl | rfl | rfl | rfl | rfl | rfl <;> rfl) (by unfold maxLen; omega) (by omega) ?_; intro g' c' w12 hrow' hgrow hnb; have f12 := ((Fr.refl (fun x => (Value.slice po (m : Nat) co).ownBlock = some x) w5).alloc _).grown hgrow (fun k hk => Or.inl hk); replace hrow' := zz hrow'; replace hnb := zz hnb; replace f12 := zz f12; clear hgrow)
      go_roundg (gk - 1)
      case measure => have := hik.out; omega
      case rel =>
       obtain ⟨a1, a2⟩ := happ5.out w12 g' c' hrow'.out f12.out (hnb.out.imp id (fun h => by simp at h; omega))
       exact ⟨i + 1, _, m + 1, c', rfl, rfl, by have := hik.out; omega, a1, a2⟩
    ·
     obtain ⟨htx, hM0⟩ := ht2.out rfl
     subst hM0
     by_cases hm0 : m = 0
     ·subst hm0
      go_wp2
      go_quiet (fail)
      go_wp2
      go_ret
      first | exact ⟨false, rfl, hret.out _ (by exact (Fr.refl _ w3).drewN _)⟩ | exact .inl ⟨rfl, (hret.out _ (by exact (Fr.refl _ w3).drewN _)).out.1⟩
     ·have hm1 : ((m : Int) == 0) = false := by rw [beq_eq_false_iff_ne]; omega
      obtain ⟨g1, M1, cap, nm, hm2, hv, hle, q1, q2, hclose⟩ := hS3.out.top (by omega)
      injection hv with hv1 hv2 hv3
      subst hv1 hm2 hv3
      have j1 : IntKind.i64.wrap (((M1 + 1 : Nat) : Int) - 1) = (M1 : Int) := by rw [IntWalk.i64_in _ (by have := hmi.out; omega)]; omega
      have j2 : (M1 : Int) < ((M1 + 1 : Nat) : Int) := by omega
      have j3 : (0 : Int) <= (M1 : Int) := by omega
      have j4 : (M1 : Int) <= (co : Int) := by omega
      generalize hMM : M1 + 1 = MM at *
      cases hsp : (([] : List UInt8) == sp.toList) with
      | false =>
       have hsp2 : ¬ sp.toList = [] := fun e => by rw [e] at hsp; exact absurd hsp (by decide)
       have hsp3 : ¬ [] = sp.toList := fun e => hsp2 e.symm
       replace hMM := zz hMM
       clear hclose
       go_wp2
       go_quiet (fail)
       go_wp2
       go_ret
       first | exact ⟨false, rfl, hret.out _ (by exact (Fr.refl _ w3).drewN _)⟩ | exact .inl ⟨rfl, (hret.out _ (by exact (Fr.refl _ w3).drewN _)).out.1⟩
      | true =>
       have hsp2 : sp.toList = [] := (beq_iff_eq.1 hsp).symm
       cases hlo : ((nameB nm).toList == loc.toList) with
       | false =>
        replace hMM := zz hMM
        clear hclose
        go_wp2
        go_quiet (fail)
        go_wp2
        go_ret
        first | exact ⟨false, rfl, hret.out _ (by exact (Fr.refl _ w3).drewN _)⟩ | exact .inl ⟨rfl, (hret.out _ (by exact (Fr.refl _ w3).drewN _)).out.1⟩
       | true =>
        have hloc : nameB nm = loc := by
         have := beq_iff_eq.1 hlo
         rw [Go.ByteArray.toList_eq, Go.ByteArray.toList_eq] at this
         exact bytes_eq this
        have hats : ats = [] := List.length_eq_zero_iff.1 hM.out.symm
        have hcl : ∀ nq, M1 <= i + 1 /\ PlS w (gs.take (i + 1)) (.slice (some ⟨g1, 0, none⟩) (M1 : Nat) co) M1 (w3.drewN nq) := fun nq => by
         rw [htk.out, emp_size hsp2, <- hloc, hats, htx]
         exact ⟨by have := hmi.out; omega, (hclose pos).of_old ((Fr.refl _ w3).drewN nq)⟩
        replace hcl := zz hcl
        replace hMM := zz hMM
        replace hloc := zz hloc
        clear hclose hats
        go_wp2
        go_quiet (fail)
        go_wp2
        go_roundg (gk - 1)
        case measure => have := hik.out; omega
        case rel =>
         obtain ⟨a1, a2⟩ := hcl.out _
         exact ⟨i + 1, _, M1, co, rfl, rfl, by have := hik.out; omega, a1, a2⟩
    ·
     have hch := (chars_do txt w3).mono (R' := fun e w' => ∃ r : Bool, e = .returned (.bool r) /\ Hid (Old w3 w')) (fun e w' x => by obtain ⟨b, h1, h2, _⟩ := x; exact ⟨b, h1, h2.old⟩)
     replace hch := zz hch
     go_wp2_with (go_at_call 23; refine hch.out.mono ?_; rintro e w4 ⟨_ | _, rfl, k4⟩)
     ·go_ret
      first | exact ⟨false, rfl, hret.out _ k4.out⟩ | exact .inl ⟨rfl, (hret.out _ k4.out).out.1⟩
     ·go_roundg (gk - 1)
      case measure => have := hik.out; omega
      case rel =>
       obtain ⟨a1, a2⟩ := hskip.out (.inl (by first | rfl | trivial)) _ k4.out
       exact ⟨i + 1, po, m, co, rfl, rfl, by have := hik.out; omega, a1, a2⟩
    ·
     have hvb := (verbatim_do txt w3 htz).mono (R' := fun e w' => ∃ r : Bool, e = .returned (.bool r) /\ (w'.cell? ⟨R, 4, none⟩ = some (.string txt)) /\ Hid (Old w3 w')) (fun e w' x => by obtain ⟨b, h1, h2⟩ := x; exact ⟨b, h1, (hyy3.out _ h2.old).2.2.2.2.1, h2.old⟩)
     have hadd : ∀ w1, (Op.stringOp .add txt ⟨#[45]⟩).run Tryz.prog w1 = .ok (.string (txt ++ ⟨#[45]⟩)) w1 := fun w1 => run_string_add_sum w1 _ _ (by have : (ByteArray.mk #[45]).size = 1 := rfl; omega)
     have hho : ∀ w4, Old w3 w4 -> Calls Tryz.prog 25 #[.string (txt ++ ⟨#[45]⟩), .string ⟨#[45, 45]⟩] w4 fun e w' => ∃ r : Bool, e = .returned (.bool r) /\ Hid (Old w3 w') := fun w4 f => (holds_do _ _ (by have : (ByteArray.mk #[45]).size = 1 := rfl; rw [ByteArray.size_append]; omega) (by decide) w4).mono (fun e w' x => by obtain ⟨r, h1, h2⟩ := x; exact ⟨r, h1, by rw [h2.out]; exact f⟩)
     replace hvb := zz hvb
     replace hho := zz hho
     go_wp2_with (first
      | (go_at_call 24; refine hvb.out.mono ?_; rintro e w4 ⟨_ | _, rfl, v4, k4⟩)
      | (go_at_call 25; refine (hho.out _ k4.out).mono ?_; rintro e w5 ⟨_ | _, rfl, k5⟩))
     ·go_ret
      first | exact ⟨false, rfl, hret.out _ k4.out⟩ | exact .inl ⟨rfl, (hret.out _ k4.out).out.1⟩
     ·go_roundg (gk - 1)
      case measure => have := hik.out; omega
      case rel =>
       obtain ⟨a1, a2⟩ := hskip.out (.inr (.inl (by first | rfl | trivial))) _ k5.out
       exact ⟨i + 1, po, m, co, rfl, rfl, by have := hik.out; omega, a1, a2⟩
     ·go_ret
      first | exact ⟨false, rfl, hret.out _ k5.out⟩ | exact .inl ⟨rfl, (hret.out _ k5.out).out.1⟩
    ·
     have hin := (isNameS_do loc w3 hlz).mono (R' := fun e w' => ∃ r : Bool, e = .returned (.bool r) /\ (w'.cell? ⟨R, 2, none⟩ = some (.string loc) /\ w'.cell? ⟨R, 4, none⟩ = some (.string txt)) /\ Hid (Old w3 w')) (fun e w' x => by obtain ⟨b, h1, h2, _⟩ := x; exact ⟨b, h1, ⟨(hyy3.out _ h2.old).2.2.1, (hyy3.out _ h2.old).2.2.2.2.1⟩, h2.old⟩)
     have hrs : ∀ w4, Old w3 w4 -> Calls Tryz.prog 27 #[.string loc] w4 fun e w' => ∃ r : Bool, e = .returned (.bool r) /\ (w'.cell? ⟨R, 4, none⟩ = some (.string txt)) /\ Hid (Old w3 w') := fun w4 f => (reserved_do loc w4).mono (fun e w' x => by obtain ⟨h1, h2⟩ := x; subst h2; exact ⟨_, h1, (hyy3.out _ f).2.2.2.2.1, f⟩)
     have hvb : ∀ w4, Old w3 w4 -> Calls Tryz.prog 24 #[.string txt] w4 fun e w' => ∃ r : Bool, e = .returned (.bool r) /\ (w'.cell? ⟨R, 4, none⟩ = some (.string txt)) /\ Hid (Old w3 w') := fun w4 f => (verbatim_do txt w4 htz).mono (fun e w' x => by obtain ⟨b, h1, h2⟩ := x; exact ⟨b, h1, (hyy3.out _ (f.old h2.old)).2.2.2.2.1, f.old h2.old⟩)
     have hho : ∀ w4, Old w3 w4 -> Calls Tryz.prog 25 #[.string txt, .string ⟨#[63, 62]⟩] w4 fun e w' => ∃ r : Bool, e = .returned (.bool r) /\ (w'.cell? ⟨R, 4, none⟩ = some (.string txt)) /\ Hid (Old w3 w') := fun w4 f => (holds_do txt _ (by omega) (by decide) w4).mono (fun e w' x => by obtain ⟨r, h1, h2⟩ := x; rw [h2.out]; exact ⟨r, h1, (hyy3.out _ f).2.2.2.2.1, f⟩)
     replace hin := zz hin
     replace hrs := zz hrs
     replace hvb := zz hvb
     replace hho := zz hho
     rcases Nat.eq_zero_or_pos txt.size with h0 | h0
     ·have x1 := toList_nil h0
      have x2 := List.isEmpty_iff.1 x1
      replace h0 := zz h0
      go_wp2_with (first
       | (go_at_call 26; refine hin.out.mono ?_; rintro e w4 ⟨_ | _, rfl, ⟨u2, u4⟩, k4⟩)
       | (go_at_call 27; refine (hrs.out _ k4.out).mono ?_; rintro e w5 ⟨_ | _, rfl, v4, k5⟩)
       | (go_at_call 24; refine (hvb.out _ k5.out).mono ?_; rintro e w6 ⟨_ | _, rfl, s4, k6⟩)
       | (go_at_call 25; refine (hho.out _ k6.out).mono ?_; rintro e w7 ⟨_ | _, rfl, r4, k7⟩))
      all_goals first
       | (go_ret
          first
           | exact ⟨false, rfl, hret.out _ k7.out⟩ | exact .inl ⟨rfl, (hret.out _ k7.out).out.1⟩
           | exact ⟨false, rfl, hret.out _ k6.out⟩ | exact .inl ⟨rfl, (hret.out _ k6.out).out.1⟩
           | exact ⟨false, rfl, hret.out _ k5.out⟩ | exact .inl ⟨rfl, (hret.out _ k5.out).out.1⟩
           | exact ⟨false, rfl, hret.out _ k4.out⟩ | exact .inl ⟨rfl, (hret.out _ k4.out).out.1⟩)
       | (go_roundg (gk - 1)
          case measure => have := hik.out; omega
          case rel =>
           obtain ⟨a1, a2⟩ := hskip.out (.inr (.inr (by first | rfl | trivial))) _ k7.out
           exact ⟨i + 1, po, m, co, rfl, rfl, by have := hik.out; omega, a1, a2⟩)
     ·have x1 := toList_ne h0
      have x2 : ¬ txt.toList = [] := fun e => by rw [e] at x1; exact absurd x1 (by decide)
      have x3 : (0 : Int) < (txt.size : Int) := by omega
      have hg0 := get_data txt 0
      obtain ⟨c, hc⟩ : ∃ c, c = txt.data.toList.getD 0 0 := ⟨_, rfl⟩
      rw [<- hc] at hg0
      have hsp : ∀ w4, Old w3 w4 -> Calls Tryz.prog 28 #[.int .u8 c.toNat] w4 fun e w' => ∃ r : Bool, e = .returned (.bool r) /\ Hid (Old w3 w') := fun w4 f => (spSpace_do c w4).mono (fun e w' x => ⟨_, x.1, f.old x.2.old⟩)
      replace hsp := zz hsp
      replace hc := zz hc
      go_wp2_with (first
       | (go_at_call 26; refine hin.out.mono ?_; rintro e w4 ⟨_ | _, rfl, ⟨u2, u4⟩, k4⟩)
       | (go_at_call 27; refine (hrs.out _ k4.out).mono ?_; rintro e w5 ⟨_ | _, rfl, v4, k5⟩)
       | (go_at_call 24; refine (hvb.out _ k5.out).mono ?_; rintro e w6 ⟨_ | _, rfl, s4, k6⟩)
       | (go_at_call 25; refine (hho.out _ k6.out).mono ?_; rintro e w7 ⟨_ | _, rfl, r4, k7⟩)
       | (go_at_call 28; refine (hsp.out _ k7.out).mono ?_; rintro e w8 ⟨_ | _, rfl, k8⟩))
      all_goals first
       | (go_ret
          first
           | exact ⟨false, rfl, hret.out _ k8.out⟩ | exact .inl ⟨rfl, (hret.out _ k8.out).out.1⟩
           | exact ⟨false, rfl, hret.out _ k7.out⟩ | exact .inl ⟨rfl, (hret.out _ k7.out).out.1⟩
           | exact ⟨false, rfl, hret.out _ k6.out⟩ | exact .inl ⟨rfl, (hret.out _ k6.out).out.1⟩
           | exact ⟨false, rfl, hret.out _ k5.out⟩ | exact .inl ⟨rfl, (hret.out _ k5.out).out.1⟩
           | exact ⟨false, rfl, hret.out _ k4.out⟩ | exact .inl ⟨rfl, (hret.out _ k4.out).out.1⟩)
       | (go_roundg (gk - 1)
          case measure => have := hik.out; omega
          case rel =>
           obtain ⟨a1, a2⟩ := hskip.out (.inr (.inr (by first | rfl | trivial))) _ k8.out
           exact ⟨i + 1, po, m, co, rfl, rfl, by have := hik.out; omega, a1, a2⟩)
    ·go_wp2
     go_ret
     first | exact ⟨false, rfl, hret.out _ (Fr.refl _ w3)⟩ | exact .inl ⟨rfl, (hret.out _ (Fr.refl _ w3)).out.1⟩
  ·have hi2 : ¬ (i : Int) < (N : Int) := by omega
   have hie : i = gs.length := by have := hN.out; omega
   rw [hie, List.take_length] at hS
   by_cases hm0 : m = 0
   ·subst hm0
    have hfin := hS.fin
    have hO := hS.old
    replace hfin := zz hfin
    replace hO := zz hO
    clear hS hie
    go_wp2
    go_ret
    first | exact .inr ⟨rfl, hO.out, hfin.out⟩ | exact ⟨_, rfl, hO.out, fun _ => hfin.out⟩
   ·have x1 : ((m : Int) == 0) = false := by rw [beq_eq_false_iff_ne]; omega
    have hO := hS.old
    replace hO := zz hO
    replace hm0 := zz hm0
    clear hS hie
    go_wp2
    go_ret
    first | exact .inl ⟨rfl, hO.out⟩ | exact ⟨false, rfl, hO.out, fun h => by cases h⟩
end Go.Proofs.YtepbbahdhhjibaaGreatDoor
