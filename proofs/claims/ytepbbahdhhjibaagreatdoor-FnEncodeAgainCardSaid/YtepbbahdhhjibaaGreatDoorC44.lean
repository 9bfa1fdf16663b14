/- own text -/
import Derived.Test.YtepbbahdhhjibaaGreatDoorC43
namespace Go.Proofs.YtepbbahdhhjibaaGreatDoor
set_option linter.unusedSimpArgs false
set_option linter.unusedVariables false
set_option maxHeartbeats 8000000
set_option maxRecDepth 100000
section
open Go.RowKit
structure EndP (P : Nat) (s : ByteArray) (base a : Nat) (q : PV) (vd : Int) (gs : List GT) (opn : List ByteArray) (bnd : List (List (ByteArray × ByteArray))) (w : World) (e : Ending) (w' : World) : Prop where
 ex : ∃ ok : Bool, e = .returned (.bool ok) /\ ((ok = false /\ FailQ P s base w w') \/ (ok = true /\ ∃ q' a' opn' bnd' x p l r, a < a' /\ a' <= s.size /\ opn = opn' ++ [colon p l] /\ bnd = bnd' ++ [x] /\ (r.size = 0 -> p.size = 0) /\ SQ P s base w' a' q' vd (gs ++ [⟨2, r, l, [], ⟨#[]⟩, (a' : Nat)⟩]) opn' bnd' /\ GoP P q w q' w' /\
  (p.size = 0 -> p = ⟨#[]⟩ /\ ∃ nm ws, NameOk nm /\ l = nameB nm /\ (∀ c ∈ ws, isWs c = true) /\ s.data.toList.drop a = nb nm ++ (ws ++ 62 :: s.data.toList.drop a') /\ a' = a + (nb nm).length + ws.length + 1)))
theorem endTag_do (P : Nat) (s : ByteArray) (base : Nat) (w : World) (a : Nat) (q : PV) (vd : Int) (gs : List GT) (opn : List ByteArray) (bnd : List (List (ByteArray × ByteArray))) (h : SQ P s base w a q vd gs opn bnd) (hz : s.size <= 1000000) (hn : gs.length <= 1000000) (hbase : base <= w.heap.size) (haz : a <= s.size) (hok : BOk bnd) (hln : opn.length <= 1000000) (hlb : bnd.length = opn.length) :
  Calls Tryz.prog 77 #[.pointer (some ⟨P, 0, none⟩)] w (EndP P s base a q vd gs opn bnd w) := by
 have hnm : Calls Tryz.prog 130 #[.pointer (some ⟨P, 0, none⟩)] w fun e w' => ∃ (p l : ByteArray) (ok : Bool), e = .returned (.tuple #[.string p, .string l, .bool ok]) /\ p.size <= 1000000 /\ l.size <= 1000000 /\ Hid ((ok = false /\ FailP P s q w w') \/ (ok = true /\ ∃ a', a <= a' /\ a' <= s.size /\ SP P s q vd w a' w' /\ (p.size = 0 -> p = ⟨#[]⟩ /\ ∃ nm, NameOk nm /\ l = ⟨(nb nm).toArray⟩ /\ s.data.toList.drop a = nb nm ++ s.data.toList.drop a' /\ a' = a + (nb nm).length))) := by
  refine (name2_do P s a q vd w h.blk hz haz).mono ?_
  rintro e w' ⟨p, l, ok, rfl, h1, h2, hk⟩
  exact ⟨p, l, ok, rfl, h1, h2, hk⟩
 have hP0 : base <= P := h.lo P (.inl rfl)
 replace hnm := zz hnm
 replace h := zz h
 replace hok := zz hok
 replace hlb := zz hlb
 replace hbase := zz hbase
 go_enter Tryz.func77, Tryz.ntmps77
 go_upto_region 2 with (go_at_call 130; refine hnm.out.mono ?_; rintro e w1 ⟨p, l, ok, rfl, hp, hl, k1⟩)
 cases ok with
 | false =>
  have k1' := (k1.out.resolve_right (fun h => by cases h.1)).2
  replace k1' := zz k1'
  go_wp2
  go_ret
  exact ⟨⟨false, rfl, .inl ⟨rfl, k1'.out.q hP0⟩⟩⟩
 | true =>
  obtain ⟨_, a1, h1, h2, hS, hpl⟩ := k1.out.resolve_left (fun h => by cases h.1)
  have hbl := hS.blanks hz h2
  replace hbl := zz hbl
  replace hpl := zz hpl
  replace hS := zz hS
  go_upto_region 5 with (go_at_call 131; refine hbl.out.mono ?_; rintro e w2 ⟨b, rfl, k2⟩)
  obtain ⟨ws, rest, _, hL, hws, _, hS2⟩ := k2.out
  have hsz := at_le hL h2
  have hgo := at_go hL
  obtain ⟨A, hA⟩ : ∃ A, A = a1 + ws.length := ⟨_, rfl⟩
  rw [<- hA] at hS2 hgo
  have hAs : A <= s.size := by omega
  rcases lit_or [62] rest with ⟨t', rfl⟩ | hno
  ·have hh := hS2.hasY hz hAs [62] t' hgo (by decide)
   have hA1 : A + 1 <= s.size := by simp at hsz; omega
   have hcl : ∀ w1, SP P s q vd w (A + 1) w1 -> Calls Tryz.prog 132 #[.pointer (some ⟨P, 0, none⟩), .string p, .string l] w1 fun e w' => ∃ ok : Bool, e = .returned (.bool ok) /\ Hid (EndP P s base a q vd gs opn bnd w (.returned (.bool ok)) w') := fun w1 k => by
    refine (close_do P s base w1 (A + 1) q vd gs opn bnd (h.out.sp k) hn (Nat.le_trans hbase.out k.2.size) hA1 hok.out hln hlb.out p l hp hl).mono ?_
    rintro e w' ⟨ok, rfl, hc⟩
    refine ⟨ok, rfl, ⟨⟨ok, rfl, ?_⟩⟩⟩
    rcases hc with ⟨e1, e2⟩ | ⟨e1, q', opn', bnd', x, r, e2, e3, e4, e5, e6⟩
    ·exact .inl ⟨e1, (e2.q hP0).from (frB k.2 hP0)⟩
    ·refine .inr ⟨e1, q', A + 1, opn', bnd', x, p, l, r, by omega, hA1, e2, e3, e4, e5, (GoP.of k.2).tr e6, fun hp0 => ?_⟩
     obtain ⟨f1, nm, f2, f3, f4, f5⟩ := hpl.out hp0
     refine ⟨f1, nm, ws, f2, f3, hws, ?_, by omega⟩
     rw [f4, hL]
     have hg2 : s.data.toList.drop (A + 1) = t' := at_go (l := [62]) hgo
     rw [hg2]; rfl
   replace hh := zz hh
   replace hcl := zz hcl
   clear hL hsz hgo hws hS2
   go_wp2_with (first
    | (go_at_call 76; refine hh.out.mono ?_; rintro e w3 ⟨rfl, _, k3⟩)
    | (go_at_call 132; refine (hcl.out _ k3.out).mono ?_; rintro e w4 ⟨ok, rfl, k4⟩))
   go_ret
   exact k4.out
  ·have hh := hS2.hasN hz hAs [62] (by rw [hgo]; exact take_ne hno) (by decide)
   have hf := fun (w1 : World) (k : SP P s q vd w A w1) => k.fail 1 (by decide) hAs
   replace hh := zz hh
   replace hf := zz hf
   clear hL hsz hgo hws hS2 hno
   go_wp2_with (first
    | (go_at_call 76; refine hh.out.mono ?_; rintro e w3 ⟨rfl, _, k3⟩)
    | (go_at_call 82; refine (hf.out _ k3.out).mono ?_; rintro e w4 ⟨rfl, k4⟩))
   go_ret
   exact ⟨⟨false, rfl, .inl ⟨rfl, k4.out.q hP0⟩⟩⟩
end
section
open Go.RowKit
def StS (s : ByteArray) (a b : Nat) (p l : ByteArray) (ats : List (ByteArray × ByteArray × ByteArray)) (emp : Bool) : Prop :=
 p.size = 0 -> (∀ x ∈ ats, x.1.size = 0) -> p = ⟨#[]⟩ /\ ∃ (nm : List Nat) (As : List At) (ws : List UInt8), NameOk nm /\ l = nameB nm /\ ats = As.map atT /\ (∀ a ∈ As, a.ok /\ a.ws0 ≠ []) /\ (∀ b ∈ ws, isWs b = true) /\
  s.data.toList.drop a = (nb nm ++ (As.flatMap At.src ++ (ws ++ endSrc emp []))) ++ s.data.toList.drop b /\ b = a + (nb nm ++ (As.flatMap At.src ++ (ws ++ endSrc emp []))).length
def AtS (s : ByteArray) (a b : Nat) (ats : List (ByteArray × ByteArray × ByteArray)) : Prop :=
 (∀ x ∈ ats, x.1.size = 0) -> ∃ As : List At, ats = As.map atT /\ (∀ a ∈ As, a.ok /\ a.ws0 ≠ []) /\ s.data.toList.drop a = As.flatMap At.src ++ s.data.toList.drop b /\ b = a + (As.flatMap At.src).length
theorem AtS.nil (s : ByteArray) (a : Nat) : AtS s a a [] := fun _ => ⟨[], rfl, fun _ h => (by cases h), rfl, rfl⟩
theorem AtS.snoc {s : ByteArray} {a b c d : Nat} {ats : List (ByteArray × ByteArray × ByteArray)} (h : AtS s a b ats) {ws : List UInt8} {p l v : ByteArray} (hws : ∀ c ∈ ws, isWs c = true) (hne : ws ≠ []) (hL : s.data.toList.drop b = ws ++ s.data.toList.drop c) (hc : c = b + ws.length)
  (hA : p.size = 0 -> p = ⟨#[]⟩ /\ ∃ A : At, A.ok /\ A.ws0 = [] /\ l = nameB A.nm /\ v = nameB A.rs /\ s.data.toList.drop c = A.src ++ s.data.toList.drop d /\ d = c + A.src.length) : AtS s a d (ats ++ [(p, l, v)]) := fun hp => by
 obtain ⟨As, h1, h2, h3, h4⟩ := h (fun x hx => hp x (by simp [hx]))
 obtain ⟨rfl, A, k1, k2, rfl, rfl, k5, k6⟩ := hA (hp (p, l, v) (by simp))
 have e1 : ({ A with ws0 := ws } : At).src = ws ++ A.src := by simp [At.src, k2]
 refine ⟨As ++ [{ A with ws0 := ws }], by simp [h1, atT], fun x hx => ?_, ?_, ?_⟩
 ·rcases List.mem_append.1 hx with hx | hx
  ·exact h2 x hx
  ·have : x = { A with ws0 := ws } := by simpa using hx
   subst this
   exact ⟨⟨hws, k1.w1, k1.w2, k1.name, k1.els, k1.out, k1.ch⟩, hne⟩
 ·rw [List.flatMap_append, h3, hL, k5]
  simp [e1]
 ·rw [List.flatMap_append, List.length_append, k6, hc, h4]
  simp [e1]; omega
theorem StS.of {s : ByteArray} {a a1 b c d : Nat} {p l : ByteArray} {ats : List (ByteArray × ByteArray × ByteArray)} {emp : Bool} {ws : List UInt8} (hpl : p.size = 0 -> p = ⟨#[]⟩ /\ ∃ nm, NameOk nm /\ l = ⟨(nb nm).toArray⟩ /\ s.data.toList.drop a = nb nm ++ s.data.toList.drop a1 /\ a1 = a + (nb nm).length)
  (h : AtS s a1 b ats) (hws : ∀ c ∈ ws, isWs c = true) (hL : s.data.toList.drop b = ws ++ s.data.toList.drop c) (hc : c = b + ws.length) (hd : s.data.toList.drop c = endSrc emp [] ++ s.data.toList.drop d) (hd2 : d = c + (endSrc emp []).length) : StS s a d p l ats emp := fun hp hat => by
 obtain ⟨h1, nm, h2, h3, h4, h5⟩ := hpl hp
 obtain ⟨As, k1, k2, k3, k4⟩ := h hat
 refine ⟨h1, nm, As, ws, h2, h3, k1, k2, hws, ?_, ?_⟩
 ·rw [h4, k3, hL, hd]; simp
 ·simp only [List.length_append]; omega
structure StP (P : Nat) (s : ByteArray) (base a : Nat) (q : PV) (vd : Int) (gs : List GT) (opn : List ByteArray) (bnd : List (List (ByteArray × ByteArray))) (w : World) (e : Ending) (w' : World) : Prop where
 ex : ∃ ok : Bool, e = .returned (.bool ok) /\ ((ok = false /\ FailQ P s base w w') \/ (ok = true /\ ∃ q' a' opn' bnd' ts p l r ats ats' emp, a < a' /\ a' <= s.size /\ SQ P s base w' a' q' vd (gs ++ ts) opn' bnd' /\ GoP P q w q' w' /\ BOk bnd' /\ bnd'.length = opn'.length /\ (r.size = 0 -> p.size = 0) /\ AtsR ats ats' /\ (p.size = 0 -> (l.toList == xmlnsL) = false) /\ StS s a a' p l ats emp /\
  ((emp = false /\ ts = [⟨1, r, l, ats', ⟨#[]⟩, (a' : Nat)⟩] /\ opn' = opn ++ [colon p l]) \/ (emp = true /\ opn' = opn /\ ∃ r2, (r2.size = 0 -> p.size = 0) /\ ts = [⟨1, r, l, ats', ⟨#[]⟩, (a' : Nat)⟩, ⟨2, r2, l, [], ⟨#[]⟩, (a' : Nat)⟩]))))
theorem StP.of {P : Nat} {s : ByteArray} {base a A : Nat} {q : PV} {vd : Int} {gs : List GT} {opn : List ByteArray} {bnd : List (List (ByteArray × ByteArray))} {p l : ByteArray} {ats : List (ByteArray × ByteArray × ByteArray)} {emp : Bool} {w w3 w' : World} {e : Ending} (h : OpnP P s base A q vd gs opn bnd p l ats emp w3 e w') (f : FrP P w w3) (hs : StS s a A p l ats emp) (ha : a < A) (hA : A <= s.size) (hP : base <= P) : StP P s base a q vd gs opn bnd w e w' := by
 obtain ⟨ok, h1, h2⟩ := h.ex
 refine ⟨ok, h1, h2.imp (fun x => ⟨x.1, x.2.from (frB f hP)⟩) ?_⟩
 rintro ⟨k1, q', opn', bnd', ts, k2, k3, k4, k5, r, ats', k6, k7, k8, k9⟩
 exact ⟨k1, q', A, opn', bnd', ts, p, l, r, ats, ats', emp, ha, hA, k2, (GoP.of f).tr k3, k4, k5, k6, k7, k8, hs, k9⟩
theorem FailQ.old {P : Nat} {s : ByteArray} {base : Nat} {w0 w w' : World} (h : FailQ P s base w0 w) (ho : Old w w') : FailQ P s base w0 w' := by
 obtain ⟨⟨a, q, vd, h1, h2⟩, f⟩ := h
 exact ⟨⟨a, q, vd, h1, h2.keep ho (fun h => h)⟩, f.old ho⟩
theorem startTag_do (P : Nat) (s : ByteArray) (base : Nat) (w : World) (a : Nat) (q : PV) (vd : Int) (gs : List GT) (opn : List ByteArray) (bnd : List (List (ByteArray × ByteArray))) (h : SQ P s base w a q vd gs opn bnd) (hz : s.size <= 800000) (hn : gs.length <= 900000) (hbase : base <= w.heap.size) (haz : a <= s.size) (hok : BOk bnd) (hln : opn.length <= 900000) (hlb : bnd.length = opn.length) :
  Calls Tryz.prog 84 #[.pointer (some ⟨P, 0, none⟩)] w (StP P s base a q vd gs opn bnd w) := by
 have hPw := h.blk.lt
 have hP0 : base <= P := h.lo P (.inl rfl)
 have hz' : s.size <= 1000000 := by omega
 have hnm : Calls Tryz.prog 130 #[.pointer (some ⟨P, 0, none⟩)] w fun e w' => ∃ (p l : ByteArray) (ok : Bool), e = .returned (.tuple #[.string p, .string l, .bool ok]) /\ p.size <= 1000000 /\ l.size <= 1000000 /\ Hid ((ok = false /\ FailP P s q w w') \/ (ok = true /\ ∃ a', a <= a' /\ a' <= s.size /\ SP P s q vd w a' w' /\ (p.size = 0 -> p = ⟨#[]⟩ /\ ∃ nm, NameOk nm /\ l = ⟨(nb nm).toArray⟩ /\ s.data.toList.drop a = nb nm ++ s.data.toList.drop a' /\ a' = a + (nb nm).length))) := by
  refine (name2_do P s a q vd w h.blk hz' haz).mono ?_
  rintro e w' ⟨p, l, ok, rfl, h1, h2, hk⟩
  exact ⟨p, l, ok, rfl, h1, h2, hk⟩
 replace hnm := zz hnm
 replace h := zz h
 replace hok := zz hok
 replace hlb := zz hlb
 replace hbase := zz hbase
 go_enter Tryz.func84, Tryz.ntmps84
 go_upto_region 2 with (go_at_call 130; refine hnm.out.mono ?_; rintro e W1 ⟨p, l, ok, rfl, hp, hl, k1⟩)
 cases ok with
 | false =>
  have k1' := (k1.out.resolve_right (fun h => by cases h.1)).2
  replace k1' := zz k1'
  go_wp2
  go_ret
  exact ⟨⟨false, rfl, .inl ⟨rfl, k1'.out.q hP0⟩⟩⟩
 | true =>
  obtain ⟨_, a1, h1, h2, hS, hpl⟩ := k1.out.resolve_left (fun h => by cases h.1)
  have hww := hS.2.size
  replace hpl := zz hpl
  replace hS := zz hS
  clear k1 hnm
  obtain ⟨T, hT⟩ : ∃ T, T = W1.heap.size := ⟨_, rfl⟩
  obtain ⟨W2, hW2⟩ : ∃ W2, W2 = W1.alloc (.cells #[.int .i64 1, .string p, .string l, .slice none 0 0, .string ⟨#[]⟩, .int .i64 0] 28) := ⟨_, rfl⟩
  have hT2 : Blk W2 T #[.int .i64 1, .string p, .string l, .slice none 0 0, .string ⟨#[]⟩, .int .i64 0] 28 := by rw [hW2, hT]; exact Blk.new W1 _ _
  have hS2 : SP P s q vd w a1 W2 := by rw [hW2]; exact hS.out.old ((Fr.refl _ W1).alloc _)
  have hTw : w.heap.size <= T := by omega
  replace hT2 := zz hT2
  replace hS2 := zz hS2
  clear hS
  go_wp2
  rw [<- hW2, <- hT]
  replace hW2 := zz hW2
  replace hT := zz hT
  go_loopg [] (s.size - a1) (fun k wr => ∃ (A : Nat) (ats : List (ByteArray × ByteArray × ByteArray)) (pa : Option Addr) (ca : Nat), a1 <= A /\ A <= s.size /\ s.size - A = k /\ SP P s q vd w A wr /\ Blk wr T #[.int .i64 1, .string p, .string l, .slice pa (ats.length : Nat) ca, .string ⟨#[]⟩, .int .i64 0] 28 /\ wr.ownsRow 0 30 3 (.slice pa (ats.length : Nat) ca) ats.length (atsC ats) /\ (∀ k, (Value.slice pa (ats.length : Nat) ca).ownBlock = some k -> T < k) /\ ats.length <= A /\ (ats = [] -> Value.slice pa (ats.length : Nat) ca = .slice none 0 0) /\ AtS s a1 A ats)
  case atStart => exact ⟨a1, [], none, 0, Nat.le_refl _, h2, rfl, hS2.out, hT2.out, World.ownsRow_nil _ _ _ _, fun k hk => (by cases hk), Nat.zero_le _, fun _ => rfl, AtS.nil s a1⟩
  case round =>
   obtain ⟨A, ats, pa, ca, hA1, hA2, hAk, hSA, hTA, hrow, hown, hlen, hnil, hAt⟩ := hrel
   obtain ⟨W3, rfl⟩ : ∃ W3, W3 = wr := ⟨_, rfl⟩
   have hTP : T ≠ P := by omega
   have hTc : ∀ w3, FrP P W3 w3 -> w3.cell? ⟨T, 0, none⟩ = some (.int .i64 1) /\ w3.cell? ⟨T, 1, none⟩ = some (.string p) /\ w3.cell? ⟨T, 2, none⟩ = some (.string l) /\ w3.cell? ⟨T, 3, none⟩ = some (.slice pa (ats.length : Nat) ca) /\ w3.cell? ⟨T, 4, none⟩ = some (.string ⟨#[]⟩) /\ w3.cell? ⟨T, 5, none⟩ = some (.int .i64 0) := fun w3 f => by
    have hb := hTA.keep f hTP
    exact ⟨by rw [hb.cell]; rfl, by rw [hb.cell]; rfl, by rw [hb.cell]; rfl, by rw [hb.cell]; rfl, by rw [hb.cell]; rfl, by rw [hb.cell]; rfl⟩
   have hlt := h.out.lt
   have hop : ∀ (emp : Bool) (A' : Nat) (w3 : World), a < A' -> A' <= s.size -> SP P s q vd W3 A' w3 -> StS s a A' p l ats emp -> Calls Tryz.prog 135 #[.pointer (some ⟨P, 0, none⟩), .agg #[.int .i64 1, .string p, .string l, .slice pa (ats.length : Nat) ca, .string ⟨#[]⟩, .int .i64 0], .bool emp] w3 fun e w' => ∃ ok : Bool, e = .returned (.bool ok) /\ Hid (StP P s base a q vd gs opn bnd w (.returned (.bool ok)) w') := fun emp A' w3 e1 e2 k hs => by
    have k' : SP P s q vd w A' w3 := k.from hSA.2
    have hAG : AttrG w3 (SA P q) (.slice pa (ats.length : Nat) ca) ats := ⟨ownsRow_frame hrow k.2 (fun k hk e => by have := hown k hk; omega), fun k hk e => by
     have h3 := hown k hk
     have h4 := hlt k e
     omega, by omega⟩
    refine (opened_do P s base w3 A' q vd gs opn bnd (h.out.sp k') hn (Nat.le_trans hbase.out k'.2.size) e2 hok.out hln hlb.out p l hp hl _ ats hAG hnil (by omega) emp).mono ?_
    intro e w' ho
    have hst := StP.of ho k'.2 hs e1 e2 hP0
    obtain ⟨ok, h5, _⟩ := ho.ex
    subst h5
    exact ⟨ok, rfl, hst⟩
   have hfl : ∀ (A' : Nat) (v : Int) (w3 : World), v ≠ 0 -> A' <= s.size -> SP P s q vd W3 A' w3 -> Calls Tryz.prog 82 #[.pointer (some ⟨P, 0, none⟩), .int .i64 v] w3 fun e w' => e = .returned (.bool false) /\ Hid (FailQ P s base w w') := fun A' v w3 hv e2 k => ((k.from hSA.2).fail v hv e2).mono (fun e w' x => ⟨x.1, x.2.out.q hP0⟩)
   have hbl := (SP.start hSA.1).blanks hz' hA2
   replace hop := zz hop
   replace hfl := zz hfl
   replace hTc := zz hTc
   replace hbl := zz hbl
   replace hSA := zz hSA
   replace hTA := zz hTA
   replace hrow := zz hrow
   replace hown := zz hown
   replace hnil := zz hnil
   replace hAt := zz hAt
   replace hAk := zz hAk
   clear hlt
   go_upto_region 6 with (go_at_call 131; refine hbl.out.mono ?_; rintro e w4 ⟨b, rfl, k4⟩)
   obtain ⟨ws, rest, hbw, hL, hws, _, hS4⟩ := k4.out
   have hsz := at_le hL hA2
   have hgo := at_go hL
   obtain ⟨B, hB⟩ : ∃ B, B = A + ws.length := ⟨_, rfl⟩
   rw [<- hB] at hS4 hgo
   have hBs : B <= s.size := by omega
   have hL' : s.data.toList.drop A = ws ++ s.data.toList.drop B := by rw [hgo]; exact hL
   replace hbw := zz hbw
   clear k4 hbl hL
   rcases lit_or [62] rest with ⟨t', rfl⟩ | hno
   ·have hh := (hS4.hasY hz' hBs [62] t' hgo (by decide)).mono (R' := fun e w' => e = .returned (.bool true) /\ (w'.cell? ⟨T, 0, none⟩ = some (.int .i64 1) /\ w'.cell? ⟨T, 1, none⟩ = some (.string p) /\ w'.cell? ⟨T, 2, none⟩ = some (.string l) /\ w'.cell? ⟨T, 3, none⟩ = some (.slice pa (ats.length : Nat) ca) /\ w'.cell? ⟨T, 4, none⟩ = some (.string ⟨#[]⟩) /\ w'.cell? ⟨T, 5, none⟩ = some (.int .i64 0)) /\ Hid (SP P s q vd W3 (B + 1) w')) (fun e w' x => ⟨x.1, hTc.out _ x.2.2.out.2, x.2.2⟩)
    have hB1 : B + 1 <= s.size := by simp at hsz; omega
    have hsrc : StS s a (B + 1) p l ats false := StS.of hpl.out hAt.out hws hL' hB (by rw [hgo]; rw [show s.data.toList.drop (B + 1) = t' from at_go (l := [62]) hgo]; rfl) rfl
    have hopx := fun (w3 : World) (k : SP P s q vd W3 (B + 1) w3) => hop.out false (B + 1) w3 (by omega) hB1 k hsrc
    replace hh := zz hh
    replace hopx := zz hopx
    clear hsrc hL' hsz hgo hws hS4
    go_wp2_with (first
     | (go_at_call 76; refine hh.out.mono ?_; rintro e w5 ⟨rfl, ⟨c0, c1, c2, c3, c4, c5⟩, k5⟩)
     | (go_at_call 135; refine (hopx.out _ k5.out).mono ?_; rintro e w6 ⟨ok, rfl, k6⟩))
    go_ret
    exact k6.out
   ·have hh1 := hS4.hasN hz' hBs [62] (by rw [hgo]; exact take_ne hno) (by decide)
    replace hh1 := zz hh1
    clear hS4
    rcases lit_or [47] rest with ⟨t', rfl⟩ | hno2
    ·have hB1 : B + 1 <= s.size := by simp at hsz; omega
     have hgo1 : s.data.toList.drop (B + 1) = t' := at_go (l := [47]) hgo
     have hh2 := fun (w3 : World) (k : SP P s q vd W3 B w3) => k.hasY hz' hBs [47] t' hgo (by decide)
     replace hh2 := zz hh2
     rcases lit_or [62] t' with ⟨t2, rfl⟩ | hno3
     ·have hB2 : B + 2 <= s.size := by simp at hsz; omega
      have hgo2 : s.data.toList.drop (B + 2) = t2 := at_go (l := [62]) hgo1
      have hh3 := fun (w3 : World) (k : SP P s q vd W3 (B + 1) w3) => (k.hasY hz' hB1 [62] t2 hgo1 (by decide)).mono (R' := fun e w' => e = .returned (.bool true) /\ (w'.cell? ⟨T, 0, none⟩ = some (.int .i64 1) /\ w'.cell? ⟨T, 1, none⟩ = some (.string p) /\ w'.cell? ⟨T, 2, none⟩ = some (.string l) /\ w'.cell? ⟨T, 3, none⟩ = some (.slice pa (ats.length : Nat) ca) /\ w'.cell? ⟨T, 4, none⟩ = some (.string ⟨#[]⟩) /\ w'.cell? ⟨T, 5, none⟩ = some (.int .i64 0)) /\ Hid (SP P s q vd W3 (B + 2) w')) (fun e w' x => ⟨x.1, hTc.out _ x.2.2.out.2, x.2.2⟩)
      have hsrc : StS s a (B + 2) p l ats true := StS.of hpl.out hAt.out hws hL' hB (by rw [hgo, hgo2]; rfl) rfl
      have hopx := fun (w3 : World) (k : SP P s q vd W3 (B + 2) w3) => hop.out true (B + 2) w3 (by omega) hB2 k hsrc
      replace hh3 := zz hh3
      replace hopx := zz hopx
      clear hsrc hL' hsz hgo hgo1 hgo2 hws hno
      go_wp2_with (first
       | (go_at_call 135; refine (hopx.out _ k7.out).mono ?_; rintro e w8 ⟨ok, rfl, k8⟩)
       | (go_at_call 76; refine (hh3.out _ k6.out).mono ?_; rintro e w7 ⟨rfl, ⟨c0, c1, c2, c3, c4, c5⟩, k7⟩)
       | (go_at_call 76; refine (hh2.out _ k5.out).mono ?_; rintro e w6 ⟨rfl, _, k6⟩)
       | (go_at_call 76; refine hh1.out.mono ?_; rintro e w5 ⟨rfl, _, k5⟩))
      go_ret
      exact k8.out
     ·have hh3 := fun (w3 : World) (k : SP P s q vd W3 (B + 1) w3) => k.hasN hz' hB1 [62] (by rw [hgo1]; exact take_ne hno3) (by decide)
      have hfx := fun (w3 : World) (k : SP P s q vd W3 (B + 1) w3) => hfl.out (B + 1) 1 w3 (by decide) hB1 k
      replace hh3 := zz hh3
      replace hfx := zz hfx
      clear hL' hsz hgo hgo1 hws hno hno3
      go_wp2_with (first
       | (go_at_call 82; refine (hfx.out _ k7.out).mono ?_; rintro e w8 ⟨rfl, k8⟩)
       | (go_at_call 76; refine (hh3.out _ k6.out).mono ?_; rintro e w7 ⟨rfl, _, k7⟩)
       | (go_at_call 76; refine (hh2.out _ k5.out).mono ?_; rintro e w6 ⟨rfl, _, k6⟩)
       | (go_at_call 76; refine hh1.out.mono ?_; rintro e w5 ⟨rfl, _, k5⟩))
      go_ret
      exact ⟨⟨false, rfl, .inl ⟨rfl, k8.out⟩⟩⟩
    ·have hh2 := fun (w3 : World) (k : SP P s q vd W3 B w3) => k.hasN hz' hBs [47] (by rw [hgo]; exact take_ne hno2) (by decide)
     replace hh2 := zz hh2
     rcases rest with _ | ⟨c, t⟩
     ·have he := fun (w3 : World) (k : SP P s q vd W3 B w3) => (k.endY (by simp at hsz; omega)).mono (R' := fun e w' => e = .returned (.bool true) /\ Hid (SP P s q vd W3 B w')) (fun e w' x => ⟨x.1, k.drw x.2⟩)
      have hfx := fun (w3 : World) (k : SP P s q vd W3 B w3) => hfl.out B 1 w3 (by decide) hBs k
      replace he := zz he
      replace hfx := zz hfx
      clear hL' hsz hgo hws hno hno2
      go_wp2_with (first
       | (go_at_call 82; refine (hfx.out _ k7.out).mono ?_; rintro e w8 ⟨rfl, k8⟩)
       | (go_at_call 42; refine (he.out _ k6.out).mono ?_; rintro e w7 ⟨rfl, k7⟩)
       | (go_at_call 76; refine (hh2.out _ k5.out).mono ?_; rintro e w6 ⟨rfl, _, k6⟩)
       | (go_at_call 76; refine hh1.out.mono ?_; rintro e w5 ⟨rfl, _, k5⟩))
      go_ret
      exact ⟨⟨false, rfl, .inl ⟨rfl, k8.out⟩⟩⟩
     ·have hlb1 : B < s.size := (at_byte hgo).1
      have he := fun (w3 : World) (k : SP P s q vd W3 B w3) => (k.endN hlb1).mono (R' := fun e w' => e = .returned (.bool false) /\ Hid (SP P s q vd W3 B w')) (fun e w' x => ⟨x.1, k.drw x.2⟩)
      have hat := fun (w3 : World) (k : SP P s q vd W3 B w3) => (attribute_do P s w3 B q vd k.1 hz' hBs).mono (R' := fun e w' => ∃ (p2 l2 v2 : ByteArray) (ok : Bool), e = .returned (.tuple #[.agg #[.string p2, .string l2, .string v2], .bool ok]) /\ Hid (FrP P W3 w' /\ ((ok = false /\ FailP P s q w3 w') \/ (ok = true /\ ∃ a', B < a' /\ a' <= s.size /\ SP P s q vd w3 a' w' /\ (p2.size = 0 -> p2 = ⟨#[]⟩ /\ ∃ A : At, A.ok /\ A.ws0 = [] /\ l2 = nameB A.nm /\ v2 = nameB A.rs /\ s.data.toList.drop B = A.src ++ s.data.toList.drop a' /\ a' = B + A.src.length))))) (by
       rintro e w' ⟨p2, l2, v2, ok, rfl, hk⟩
       refine ⟨p2, l2, v2, ok, rfl, ?_, hk⟩
       rcases hk with ⟨_, ⟨_, _, _, _, _, f⟩⟩ | ⟨_, _, _, _, f, _⟩
       ·exact frp_tr k.2 f
       ·exact frp_tr k.2 f.2)
      replace he := zz he
      replace hat := zz hat
      clear hsz hgo hno hno2
      go_upto_region 15 with (first
       | (go_at_call 136; refine (hat.out _ k7.out).mono ?_; rintro e w8 ⟨p2, l2, v2, ok, rfl, k8⟩)
       | (go_at_call 42; refine (he.out _ k6.out).mono ?_; rintro e w7 ⟨rfl, k7⟩)
       | (go_at_call 76; refine (hh2.out _ k5.out).mono ?_; rintro e w6 ⟨rfl, _, k6⟩)
       | (go_at_call 76; refine hh1.out.mono ?_; rintro e w5 ⟨rfl, _, k5⟩))
      obtain ⟨R8, hR8⟩ : ∃ R8, R8 = w8.heap.size := ⟨_, rfl⟩
      obtain ⟨W9, hW9⟩ : ∃ W9, W9 = w8.alloc (.cells #[.string p2, .string l2, .string v2] 30) := ⟨_, rfl⟩
      have hO9 : Old w8 W9 := by rw [hW9]; exact (Fr.refl _ w8).alloc _
      have hb9 : Blk W9 R8 #[.string p2, .string l2, .string v2] 30 := by rw [hW9, hR8]; exact Blk.new w8 _ _
      have hfp9 : FrP P W3 W9 := k8.out.1.old hO9
      have hTR : T < R8 := by have := hTA.out.lt; have := k8.out.1.size; omega
      rw [<- hW9, <- hR8]
      replace hW9 := zz hW9
      replace hR8 := zz hR8
      cases ok with
      | false =>
       have hfq := (((k8.out.2.resolve_right (fun h => by cases h.1)).2.q hP0).from (frB (frp_tr hSA.out.2 k7.out.2) hP0)).old hO9
       replace hfq := zz hfq
       clear hO9 hb9 hfp9
       go_wp2
       go_ret
       exact ⟨⟨false, rfl, .inl ⟨rfl, hfq.out⟩⟩⟩
      | true =>
       obtain ⟨_, A3, hA3, hA3s, hS8, hpa⟩ := k8.out.2.resolve_left (fun h => by cases h.1)
       have hS9 : SP P s q vd W3 A3 W9 := ⟨hS8.1.keep hO9 (fun h => h), hfp9⟩
       replace hpa := zz hpa
       replace hO9 := zz hO9
       clear k8 hS8
       cases b with
       | false =>
        have hfx := hfl.out A3 2 W9 (by decide) hA3s hS9
        replace hfx := zz hfx
        replace hS9 := zz hS9
        clear hb9 hfp9
        go_wp2_with (go_at_call 82; refine hfx.out.mono ?_; rintro e w10 ⟨rfl, k10⟩)
        go_ret
        exact ⟨⟨false, rfl, .inl ⟨rfl, k10.out⟩⟩⟩
       | true =>
        have hwsn : ws ≠ [] := by
         rintro rfl
         have := hbw.out
         cases this
        have hrow9 := ownsRow_frame hrow.out hfp9 (fun k hk e => by have := hown.out k hk; omega)
        have hT9 : Blk W9 T #[.int .i64 1, .string p, .string l, .slice pa (ats.length : Nat) ca, .string ⟨#[]⟩, .int .i64 0] 28 := hTA.out.keep hfp9 hTP
        have c3 : W9.cell? ⟨T, 3, none⟩ = some (.slice pa (ats.length : Nat) ca) := by rw [hT9.cell]; rfl
        have hat2 : AtS s a1 A3 (ats ++ [(p2, l2, v2)]) := hAt.out.snoc hws hwsn hL' hB hpa.out
        obtain ⟨n, hn2⟩ : ∃ n, n = ats.length := ⟨_, rfl⟩
        rw [<- hn2] at hrow9 hT9 c3 hlen
        have hfl9 : ∀ w1, Old W9 w1 -> Calls Tryz.prog 82 #[.pointer (some ⟨P, 0, none⟩), .int .i64 2] w1 fun e w' => e = .returned (.bool false) /\ Hid (FailQ P s base w w') := fun w1 ho => hfl.out A3 2 w1 (by decide) hA3s (hS9.old ho)
        replace hn2 := zz hn2
        replace hfl9 := zz hfl9
        replace hrow9 := zz hrow9
        replace hT9 := zz hT9
        replace hat2 := zz hat2
        replace hS9 := zz hS9
        replace hb9 := zz hb9
        replace hfp9 := zz hfp9
        obtain ⟨ko, rfl⟩ : ∃ ko, ko = gk := ⟨_, rfl⟩
        clear hL' hws hbw hpa
        go_wp2
        go_loopg [58] n (fun k u58 w10 => ∃ j : Nat, u58 = .int .i64 j /\ j + k = n /\ Old W9 w10)
        case atStart => exact ⟨0, rfl, by omega, Fr.refl _ _⟩
        case round =>
         obtain ⟨j, rfl, hjk, hO10⟩ := hrel
         obtain ⟨W10, rfl⟩ : ∃ W10, W10 = wr := ⟨_, rfl⟩
         by_cases hj : j < n
         ·obtain ⟨gx, capx, hvx, _, hcx⟩ := ownsRow_some hrow9.out (by omega)
          obtain rfl : pa = some ⟨gx, 0, none⟩ := by injection hvx
          obtain ⟨x1, x2, x3⟩ := atsC_get ats j (by have := hn2.out; omega)
          have q0 := hO10.cell (hcx _ _ x1)
          have q1 := hO10.cell (hcx _ _ x2)
          have q2 := hO10.cell (hcx _ _ x3)
          generalize ats[j]'(by have := hn2.out; omega) = aj at q0 q1 q2
          obtain ⟨sj, lj, vj⟩ := aj
          dsimp only at q0 q1 q2
          have hj2 : (j : Int) < (n : Int) := by omega
          have hI : IntKind.i64.wrap ((j : Int) + 1) = ((j + 1 : Nat) : Int) := by rw [IntWalk.i64_in _ (by omega)]; omega
          have hO11 : Old W10 (W10.alloc (.cells #[.string sj, .string lj, .string vj] 30)) := (Fr.refl _ W10).alloc _
          have hbR := (hb9.out.keep hO10 (fun h => h)).keep hO11 (fun h => h)
          replace hI := zz hI
          replace hO10 := zz hO10
          replace hO11 := zz hO11
          replace hjk := zz hjk
          replace hbR := zz hbR
          clear hvx hcx x1 x2 x3
          go_upto_region 22 with fail
          obtain ⟨W11, hW11⟩ : ∃ W11, W11 = W10.alloc (.cells #[.string sj, .string lj, .string vj] 30) := ⟨_, rfl⟩
          have hbB : Blk W11 W10.heap.size #[.string sj, .string lj, .string vj] 30 := by rw [hW11]; exact Blk.new W10 _ _
          rw [<- hW11] at hO11 hbR ⊢
          generalize W10.heap.size = R10 at *
          have y0 : W11.cell? ⟨R10, 0, none⟩ = some (.string sj) := by rw [hbB.cell]; rfl
          have y1 : W11.cell? ⟨R10, 1, none⟩ = some (.string lj) := by rw [hbB.cell]; rfl
          have y2 : W11.cell? ⟨R8, 0, none⟩ = some (.string p2) := by rw [hbR.out.cell]; rfl
          have y3 : W11.cell? ⟨R8, 1, none⟩ = some (.string l2) := by rw [hbR.out.cell]; rfl
          replace hW11 := zz hW11
          clear hbB q0 q1 q2
          go_cut [73] from 62 to 73 (fun s73 wx => ∃ b : Bool, s73 = .bool b /\ wx = W11)
          case first =>
           go_wp2_with fail
           all_goals go_meet
           all_goals exact ⟨_, rfl, rfl⟩
          case rest =>
           obtain ⟨b, rfl, hw⟩ := hcut
           rw [hw]; clear hw wc
           have hO12 : Old W9 W11 := hO10.out.trans hO11.out (fun _ h => .inl h)
           cases b with
           | true =>
            have hfx := hfl9.out _ hO12
            replace hfx := zz hfx
            replace hO12 := zz hO12
            go_wp2_with (go_at_call 82; refine hfx.out.mono ?_; rintro e w1 ⟨rfl, k1⟩)
            go_ret
            exact ⟨⟨false, rfl, .inl ⟨rfl, k1.out⟩⟩⟩
           | false =>
            replace hO12 := zz hO12
            go_wp2
            go_roundg (gk - 1)
            case measure => have := hjk.out; omega
            case rel => exact ⟨j + 1, rfl, by have := hjk.out; omega, hO12.out⟩
         ·have hj2 : ¬ (j : Int) < (n : Int) := by omega
          obtain ⟨i0, hi0, hz0, hz1, hz2⟩ := info_parts info30
          have hT10 := hT9.out.keep hO10 (fun h => h)
          have hb10 := hb9.out.keep hO10 (fun h => h)
          have hrow10 := ownsRow_frame hrow9.out hO10 (fun _ _ h => h)
          have c3' : W10.cell? ⟨T, 3, none⟩ = some (.slice pa (n : Nat) ca) := by rw [hT10.cell]; rfl
          have y0 : W10.cell? ⟨R8, 0, none⟩ = some (.string p2) := by rw [hb10.cell]; rfl
          have y1 : W10.cell? ⟨R8, 1, none⟩ = some (.string l2) := by rw [hb10.cell]; rfl
          have y2 : W10.cell? ⟨R8, 2, none⟩ = some (.string v2) := by rw [hb10.cell]; rfl
          have hTx : ∀ k, (Value.slice pa (n : Nat) ca).ownBlock = some k -> T < k := fun k hk => hown.out k (by rw [<- hn2.out]; exact hk)
          replace hT10 := zz hT10
          replace hrow10 := zz hrow10
          replace hO10 := zz hO10
          replace hTx := zz hTx
          clear hb10 hjk
          go_wp2_with (at_builtin; refine wpList_append rfl _ _ 26 rfl 30 i0 _ 3 48 Tryz.underlying26 hi0 hz0 hz1 hz2 rfl (by decide) _ n (atsC ats) (by rfl) (ownsRow_frame (F := fun _ => False) hrow10.out ((Fr.refl _ W10).alloc _) (fun _ _ h => h)) _ 1 1 [.string p2, .string l2, .string v2] (by rfl) (by rfl) (by decide) (news_alloc _ [.string p2, .string l2, .string v2] 30) (by intro u hu; simp at hu; rcases hu with rfl | rfl | rfl <;> rfl) (by unfold maxLen; omega) (by omega) ?_; intro g' c' w12 hrow2 hgrow hnb; have f12 := ((Fr.refl (fun x => (Value.slice pa (n : Nat) ca).ownBlock = some x) W10).alloc _).grown hgrow (fun k hk => Or.inl hk); have hT12 := hT10.out.keep f12 (fun e => Nat.lt_irrefl _ (hTx.out _ e)); have t3 : w12.cell? ⟨T, 3, none⟩ = some (.slice pa (n : Nat) ca) := (by rw [hT12.cell]; rfl); have t4 := hT12.fz 3; replace hrow2 := zz hrow2; replace hnb := zz hnb; replace f12 := zz f12; replace hT12 := zz hT12; clear hgrow)
          have e1 : (ats ++ [(p2, l2, v2)]).length = n + 1 := by simp [hn2.out]
          have e2 : atsC (ats ++ [(p2, l2, v2)]) = atsC ats ++ [.string p2, .string l2, .string v2] := by simp [atsC]
          have hgT : T < g' := by
           rcases hnb.out with h | h
           ·exact hTx.out g' h
           ·have := hT10.out.lt; simp at h; omega
          replace e2 := zz e2
          go_roundg (s.size - A3)
          case measure => have := hAk.out; omega
          case rel =>
           refine ⟨A3, ats ++ [(p2, l2, v2)], some ⟨g', 0, none⟩, c', by omega, hA3s, rfl, ⟨?_, ?_⟩, ?_, ?_, ?_, ?_, ?_, hat2.out⟩
           ·exact ((hS9.out.1.keep hO10.out (fun h => h)).keep f12.out (fun e => by have := hTx.out P e; omega)).set_ne (fun e => hTP e.symm) _
           ·have g1 : FrP P w W10 := (frp_tr hSA.out.2 hfp9.out).old hO10.out
            have g2 : FrP P w w12 := g1.trans f12.out (fun x hx => .inr (by have := hTx.out x hx; omega))
            exact g2.set (Or.inr hTw) _ _
           ·rw [e1]; exact hT12.out.set 3 _
           ·rw [e1, e2.out]; exact ownsRow_setCell hrow2.out (fun e => by have : g' = T := (by simpa [Value.ownBlock] using e); omega) _
           ·intro k hk
            have hk2 : g' = k := by simpa [Value.ownBlock] using hk
            omega
           ·rw [e1]; omega
           ·intro e; simp at e
end
end Go.Proofs.YtepbbahdhhjibaaGreatDoor
