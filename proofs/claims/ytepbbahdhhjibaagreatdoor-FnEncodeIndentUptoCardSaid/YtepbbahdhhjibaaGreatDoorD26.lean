/- own text -/
import Derived.Test.YtepbbahdhhjibaaGreatDoorD19
import Derived.Test.YtepbbahdhhjibaaGreatDoorD24
namespace Go.Proofs.YtepbbahdhhjibaaGreatDoor
set_option linter.unusedSimpArgs false
set_option linter.unusedVariables false
set_option maxHeartbeats 200000
set_option maxRecDepth 512
def attrOut (x : List Nat × List Nat) : List UInt8 := [32] ++ nb x.1 ++ [61, 34] ++ escL true x.2 ++ [34]
def attrsOut (kv : List (List Nat × List Nat)) : List UInt8 := kv.flatMap attrOut
def startOut (nm : List Nat) (kv : List (List Nat × List Nat)) : List UInt8 := [60] ++ nb nm ++ attrsOut kv ++ [62]
def tkOut : Tk -> List UInt8
 | .st nm kv => startOut nm kv
 | .en nm => [60, 47] ++ nb nm ++ [62]
 | .tx rs => escL false rs
 | .cm d => [60, 33, 45, 45] ++ d ++ [45, 45, 62]
 | .pi nm d => [60, 63] ++ nb nm ++ (if d = [] then [] else 32 :: d) ++ [63, 62]
def toksOut (l : List Tk) : List UInt8 := l.flatMap tkOut
theorem toksOut_app (a b : List Tk) : toksOut (a ++ b) = toksOut a ++ toksOut b := by simp [toksOut]
theorem toksOut_one (t : Tk) : toksOut [t] = tkOut t := by simp [toksOut]
theorem toksOut_cons (t : Tk) (l : List Tk) : toksOut (t :: l) = tkOut t ++ toksOut l := by simp [toksOut]
def tkOk : Tk -> Prop
 | .st nm kv => NameOk nm /\ (nb nm == [120, 109, 108, 110, 115]) = false /\ ∀ x ∈ kv, NameOk x.1 /\ (nb x.1 == [120, 109, 108, 110, 115]) = false /\ ∀ r ∈ x.2, isCh r = true
 | .en nm => NameOk nm /\ (nb nm == [120, 109, 108, 110, 115]) = false
 | .tx rs => ∀ r ∈ rs, isCh r = true
 | .cm d => pathCM 0 0 (d ++ [45, 45, 62])
 | .pi nm d => NameOk nm /\ (∀ c t, d = c :: t -> isWs c = false) /\ pathPI 0 (d ++ [63, 62]) /\ nb nm ≠ [120, 109, 108]
def nestS (o : List (List Nat)) : Tk -> Option (List (List Nat))
 | .st nm _ => some (nm :: o)
 | .en nm => match o with
  | [] => none
  | x :: o' => if x = nm then some o' else none
 | _ => some o
def nestL : List (List Nat) -> List Tk -> Option (List (List Nat))
 | o, [] => some o
 | o, t :: l => (nestS o t).bind fun o' => nestL o' l
theorem nestL_app (a b : List Tk) : ∀ o, nestL o (a ++ b) = (nestL o a).bind fun o' => nestL o' b := by
 induction a with
 | nil => intro o; rfl
 | cons t a ih =>
  intro o
  simp only [List.cons_append, nestL]
  cases nestS o t with
  | none => rfl
  | some o' => simp only [Option.bind_some]; exact ih o'
theorem nest_tx (o : List (List Nat)) (rs : List Nat) : nestL o [.tx rs] = some o := rfl
def addT (l : List Tk) : Tk -> List Tk
 | .tx rs => if rs = [] then l else match l.getLast? with
  | some (.tx r0) => l.dropLast ++ [.tx (r0 ++ rs)]
  | _ => l ++ [.tx rs]
 | t => l ++ [t]
def merge (l : List Tk) : List Tk := l.foldl addT []
theorem merge_snoc (l : List Tk) (t : Tk) : merge (l ++ [t]) = addT (merge l) t := by simp [merge]
def Tk.isTx : Tk -> Bool
 | .tx _ => true
 | _ => false
def noAdj : List Tk -> Prop
 | [] => True
 | t :: l => (t.isTx = true -> t ≠ .tx [] /\ ∀ u m, l = u :: m -> u.isTx = false) /\ noAdj l
theorem noAdj_snoc {l : List Tk} {t : Tk} (h : noAdj l) (ht : t ≠ .tx []) (hl : t.isTx = true -> ∀ u, l.getLast? = some u -> u.isTx = false) : noAdj (l ++ [t]) := by
 induction l with
 | nil => exact ⟨fun _ => ⟨ht, fun u m e => by cases e⟩, trivial⟩
 | cons x l ih =>
  obtain ⟨h1, h2⟩ := h
  refine ⟨fun hx => ⟨(h1 hx).1, fun u m e => ?_⟩, ih h2 fun htx u hu => hl htx u ?_⟩
  ·cases l with
   | nil =>
    cases e
    cases htt : t.isTx with
    | false => rfl
    | true => have := hl htt x rfl; rw [hx] at this; cases this
   | cons y l => cases e; exact (h1 hx).2 _ _ rfl
  ·cases l with
   | nil => cases hu
   | cons y l => rw [List.getLast?_cons_cons]; exact hu
theorem noAdj_app_left {a b : List Tk} (h : noAdj (a ++ b)) : noAdj a := by
 induction a with
 | nil => trivial
 | cons x a ih =>
  refine ⟨fun hx => ⟨(h.1 hx).1, fun u m e => ?_⟩, ih h.2⟩
  subst e
  exact (h.1 hx).2 u (m ++ b) rfl
theorem escL_join (nl : Bool) (a b : List Nat) : escL nl (a ++ b) = escL nl a ++ escL nl b := escL_app nl a b
theorem addT_cases (l : List Tk) (t : Tk) : (t = .tx [] /\ addT l t = l) \/ (∃ r0 rs l0, t = .tx rs /\ rs ≠ [] /\ l = l0 ++ [.tx r0] /\ addT l t = l0 ++ [.tx (r0 ++ rs)]) \/ (t ≠ .tx [] /\ (t.isTx = true -> ∀ u, l.getLast? = some u -> u.isTx = false) /\ addT l t = l ++ [t]) := by
 cases t with
 | tx rs =>
  by_cases h : rs = []
  ·subst h; exact .inl ⟨rfl, by simp [addT]⟩
  ·right
   cases hl : l.getLast? with
   | none => exact .inr ⟨by simpa using h, fun _ u hu => by simp at hu, by simp [addT, h, hl]⟩
   | some u =>
    cases u with
    | tx r0 =>
     left
     refine ⟨r0, rs, l.dropLast, rfl, h, ?_, by simp [addT, h, hl]⟩
     have hne : l ≠ [] := by intro e; subst e; cases hl
     rw [List.getLast?_eq_some_getLast hne] at hl
     have := List.dropLast_concat_getLast hne
     rw [Option.some.inj hl] at this
     exact this.symm
    | st nm kv => exact .inr ⟨by simpa using h, fun _ u hu => by cases hu; rfl, by simp [addT, h, hl]⟩
    | en nm => exact .inr ⟨by simpa using h, fun _ u hu => by cases hu; rfl, by simp [addT, h, hl]⟩
    | cm d => exact .inr ⟨by simpa using h, fun _ u hu => by cases hu; rfl, by simp [addT, h, hl]⟩
    | pi nm d => exact .inr ⟨by simpa using h, fun _ u hu => by cases hu; rfl, by simp [addT, h, hl]⟩
 | st nm kv => exact .inr (.inr ⟨by simp, fun h => (by cases h), rfl⟩)
 | en nm => exact .inr (.inr ⟨by simp, fun h => (by cases h), rfl⟩)
 | cm d => exact .inr (.inr ⟨by simp, fun h => (by cases h), rfl⟩)
 | pi nm d => exact .inr (.inr ⟨by simp, fun h => (by cases h), rfl⟩)
structure Merg (l m : List Tk) : Prop where
 out : toksOut m = toksOut l
 nest : ∀ o, nestL o m = nestL o l
 adj : noAdj m
 ok : (∀ t ∈ l, tkOk t) -> ∀ t ∈ m, tkOk t
 len : m.length <= l.length
theorem noAdj_last {l0 : List Tk} {r0 r : List Nat} (h : noAdj (l0 ++ [.tx r0])) (hr : r ≠ []) : noAdj (l0 ++ [.tx r]) := by
 refine noAdj_snoc (noAdj_app_left h) (by simpa using hr) fun _ u hu => ?_
 induction l0 with
 | nil => cases hu
 | cons x l0 ih =>
  cases l0 with
  | nil =>
   simp at hu
   subst hu
   cases hx : x.isTx with
   | false => rfl
   | true => have := (h.1 hx).2 (.tx r0) [] rfl; cases this
  | cons y l0 => rw [List.getLast?_cons_cons] at hu; exact ih h.2 hu
theorem merg_snoc {l m : List Tk} (h : Merg l m) (t : Tk) : Merg (l ++ [t]) (addT m t) := by
 rcases addT_cases m t with ⟨rfl, e⟩ | ⟨r0, rs, l0, rfl, hrs, hm, e⟩ | ⟨h1, h2, e⟩
 ·rw [e]
  refine ⟨?_, fun o => ?_, h.adj, fun hk => h.ok (fun t ht => hk t (by simp [ht])), by have := h.len; simp; omega⟩
  ·rw [toksOut_app, <- h.out]; simp [toksOut, tkOut, escL]
  ·rw [nestL_app, <- h.nest]
   cases nestL o m <;> rfl
 ·rw [e]
  subst hm
  refine ⟨?_, fun o => ?_, noAdj_last h.adj (by simp [hrs]), fun hk t ht => ?_, by have := h.len; simp at this ⊢; omega⟩
  ·rw [toksOut_app l, <- h.out, toksOut_app, toksOut_app, toksOut_one, toksOut_one, toksOut_one]
   simp only [tkOut, escL_app, List.append_assoc]
  ·rw [nestL_app l, <- h.nest, nestL_app, nestL_app]
   cases nestL o l0 <;> rfl
  ·have hk' := h.ok (fun t ht => hk t (by simp [ht]))
   rcases List.mem_append.1 ht with h' | h'
   ·exact hk' t (by simp [h'])
   ·obtain rfl : t = .tx (r0 ++ rs) := by simpa using h'
    have h1 : tkOk (.tx r0) := hk' _ (by simp)
    have h2 : tkOk (.tx rs) := hk _ (by simp)
    intro r hr
    rcases List.mem_append.1 hr with h' | h'
    ·exact h1 r h'
    ·exact h2 r h'
 ·rw [e]
  refine ⟨?_, fun o => ?_, noAdj_snoc h.adj h1 h2, fun hk t' ht => ?_, by have := h.len; simp; omega⟩
  ·rw [toksOut_app, toksOut_app, h.out]
  ·rw [nestL_app, nestL_app, h.nest]
  ·rcases List.mem_append.1 ht with h' | h'
   ·exact h.ok (fun t ht => hk t (by simp [ht])) t' h'
   ·exact hk t' (by simp only [List.mem_append]; exact .inr h')
theorem merg_fold : ∀ (l : List Tk) (a m : List Tk), Merg a m -> Merg (a ++ l) (l.foldl addT m) := by
 intro l
 induction l with
 | nil => intro a m h; simpa using h
 | cons t l ih =>
  intro a m h
  have := ih (a ++ [t]) (addT m t) (merg_snoc h t)
  simpa using this
theorem merg_merge (l : List Tk) : Merg l (merge l) := by
 have := merg_fold l [] [] ⟨rfl, fun _ => rfl, trivial, fun _ _ h => by (cases h), Nat.le_refl _⟩
 simpa [merge] using this
theorem addT_adj {l : List Tk} {t : Tk} (h : noAdj (l ++ [t])) : addT l t = l ++ [t] := by
 rcases addT_cases l t with ⟨rfl, e⟩ | ⟨r0, rs, l0, rfl, hrs, hm, e⟩ | ⟨h1, h2, e⟩
 ·exfalso
  induction l with
  | nil => exact (h.1 rfl).1 rfl
  | cons x l ih => exact ih h.2 (by simp [addT])
 ·exfalso
  subst hm
  clear e hrs
  induction l0 with
  | nil => have := (h.1 rfl).2 _ _ rfl; cases this
  | cons x l ih => exact ih h.2
 ·exact e
theorem merge_fix : ∀ (l a : List Tk), noAdj (a ++ l) -> l.foldl addT a = a ++ l := by
 intro l
 induction l with
 | nil => intro a _; simp
 | cons t l ih =>
  intro a h
  have h' : noAdj ((a ++ [t]) ++ l) := by simpa using h
  rw [List.foldl_cons, addT_adj (noAdj_app_left h'), ih _ h']
  simp
theorem merge_of_adj {l : List Tk} (h : noAdj l) : merge l = l := by
 have := merge_fix l [] (by simpa using h)
 simpa [merge] using this
def escEl (nl : Bool) (r : Nat) : List El :=
 if r = 34 then [.num false [51, 52]] else if r = 39 then [.num false [51, 57]] else if r = 38 then [.nam [97, 109, 112] 38] else if r = 60 then [.nam [108, 116] 60] else if r = 62 then [.nam [103, 116] 62]
 else if r = 9 then [.num true [57]] else if r = 10 then (if nl then [.num true [65]] else [.by 10]) else if r = 13 then [.num true [68]] else (u8 r).map .by
def escEls (nl : Bool) (rs : List Nat) : List El := rs.flatMap (escEl nl)
theorem srcs_app (a b : List El) : srcs (a ++ b) = srcs a ++ srcs b := by simp [srcs]
theorem srcs_by (l : List UInt8) : srcs (l.map .by) = l := by
 induction l with
 | nil => rfl
 | cons c l ih => rw [List.map_cons, srcs_cons, ih]; rfl
theorem escEl_src (nl : Bool) (r : Nat) : srcs (escEl nl r) = esc nl r := by
 unfold escEl esc
 repeat' split
 all_goals first | rfl | exact srcs_by _
theorem escEls_src (nl : Bool) (rs : List Nat) : srcs (escEls nl rs) = escL nl rs := by
 induction rs with
 | nil => rfl
 | cons r rs ih =>
  have e1 : escEls nl (r :: rs) = escEl nl r ++ escEls nl rs := rfl
  have e2 : escL nl (r :: rs) = esc nl r ++ escL nl rs := rfl
  rw [e1, e2, srcs_app, escEl_src, ih]
theorem u8_bytes {r : Nat} (hr : okR r) : (128 <= r -> ∀ c ∈ u8 r, 128 <= c.toNat) := by
 unfold okR at hr
 intro h c hc
 unfold u8 at hc
 rw [if_neg (by omega)] at hc
 split at hc
 ·simp only [List.mem_cons, List.not_mem_nil, or_false] at hc
  rcases hc with rfl | rfl <;> rw [ofNat_toNat (by omega)] <;> omega
 ·split at hc
  ·simp only [List.mem_cons, List.not_mem_nil, or_false] at hc
   rcases hc with rfl | rfl | rfl <;> rw [ofNat_toNat (by omega)] <;> omega
  ·simp only [List.mem_cons, List.not_mem_nil, or_false] at hc
   rcases hc with rfl | rfl | rfl | rfl <;> rw [ofNat_toNat (by omega)] <;> omega
theorem by_run {q : List UInt8} {chk refs : Bool} : ∀ (l : List UInt8) (b0 b1 : UInt8) (rest : List El), (∀ c ∈ l, c ∉ q /\ c ≠ 62 /\ c ≠ 13) -> b1 ≠ 13 ->
  (∀ b0' b1', b1' ≠ 13 -> elsOk q chk refs b0' b1' rest) -> elsOk q chk refs b0 b1 (l.map .by ++ rest) := by
 intro l
 induction l with
 | nil => intro b0 b1 rest _ hb h; exact h b0 b1 hb
 | cons c l ih =>
  intro b0 b1 rest hl hb h
  have hc := hl c (by simp)
  exact ⟨⟨hc.1, fun e => hc.2.1 e.2.2.2⟩, ih b1 c rest (fun x hx => hl x (by simp [hx])) hc.2.2 h⟩
theorem by_out : ∀ (l : List UInt8) (b1 : UInt8) (rest : List El) (o : List UInt8), (∀ c ∈ l, c ≠ 13) -> b1 ≠ 13 ->
  (∀ b1', b1' ≠ 13 -> elsOut b1' rest = o) -> elsOut b1 (l.map .by ++ rest) = l ++ o := by
 intro l
 induction l with
 | nil => intro b1 rest o _ hb h; exact h b1 hb
 | cons c l ih =>
  intro b1 rest o hl hb h
  have hc := hl c (by simp)
  show El.out b1 (.by c) ++ elsOut c (l.map .by ++ rest) = c :: (l ++ o)
  rw [ih c rest o (fun x hx => hl x (by simp [hx])) hc h]
  simp [El.out, hc, hb]
theorem esc_ok {nl chk : Bool} {q : List UInt8} (hq : ∀ c ∈ q, c = 60 \/ c = 38 \/ c = 34) : ∀ (rs : List Nat), (∀ r ∈ rs, isCh r = true) -> ∀ b0 b1, b1 ≠ 13 -> elsOk q chk true b0 b1 (escEls nl rs) := by
 intro rs
 induction rs with
 | nil => intro _ b0 b1 _; trivial
 | cons r rs ih =>
  intro hrs b0 b1 hb
  have hr := hrs r (by simp)
  have ih' := ih (fun x hx => hrs x (by simp [hx]))
  have e1 : escEls nl (r :: rs) = escEl nl r ++ escEls nl rs := rfl
  rw [e1]
  unfold escEl
  split
  ·exact ⟨⟨rfl, by simp, by decide, by decide⟩, ih' _ _ (by simp [El.next])⟩
  split
  ·exact ⟨⟨rfl, by simp, by decide, by decide⟩, ih' _ _ (by simp [El.next])⟩
  split
  ·exact ⟨⟨rfl, by simp [ents]⟩, ih' _ _ (by simp [El.next])⟩
  split
  ·exact ⟨⟨rfl, by simp [ents]⟩, ih' _ _ (by simp [El.next])⟩
  split
  ·exact ⟨⟨rfl, by simp [ents]⟩, ih' _ _ (by simp [El.next])⟩
  split
  ·exact ⟨⟨rfl, by simp, by decide, by decide⟩, ih' _ _ (by simp [El.next])⟩
  split
  ·split
   ·exact ⟨⟨rfl, by simp, by decide, by decide⟩, ih' _ _ (by simp [El.next])⟩
   ·refine ⟨⟨fun h => ?_, fun e => absurd e.2.2.2 (by decide)⟩, ih' _ _ (by simp [El.next])⟩
    rcases hq _ h with h | h | h <;> exact absurd h (by decide)
  split
  ·exact ⟨⟨rfl, by simp, by decide, by decide⟩, ih' _ _ (by simp [El.next])⟩
  ·rename_i h1 h2 h3 h4 h5 h6 h7 h8
   refine by_run (u8 r) b0 b1 _ (fun c hc => ?_) hb (fun b0' b1' hb' => ih' b0' b1' hb')
   by_cases h128 : r < 128
   ·rw [u8_ascii h128] at hc
    obtain rfl : c = UInt8.ofNat r := by simpa using hc
    have key : ∀ n : Nat, n < 128 -> r ≠ n -> UInt8.ofNat r ≠ UInt8.ofNat n := by
     intro n hn hne e
     have := congrArg UInt8.toNat e
     rw [ofNat_toNat (by omega), ofNat_toNat (by omega)] at this
     exact hne this
    refine ⟨fun h => ?_, key 62 (by omega) (by omega), key 13 (by omega) (by omega)⟩
    rcases hq _ h with h | h | h
    ·exact key 60 (by omega) (by omega) h
    ·exact key 38 (by omega) (by omega) h
    ·exact key 34 (by omega) (by omega) h
   ·have hge := u8_bytes (isCh_ok hr) (by omega) c hc
    have key : ∀ d : UInt8, d.toNat < 128 -> c ≠ d := by rintro d hd rfl; omega
    refine ⟨fun h => ?_, key 62 (by decide), key 13 (by decide)⟩
    rcases hq _ h with h | h | h
    ·exact key 60 (by decide) h
    ·exact key 38 (by decide) h
    ·exact key 34 (by decide) h
theorem esc_out {nl : Bool} : ∀ (rs : List Nat), (∀ r ∈ rs, isCh r = true) -> ∀ b1, b1 ≠ 13 -> elsOut b1 (escEls nl rs) = nb rs := by
 intro rs
 induction rs with
 | nil => intro _ b1 _; rfl
 | cons r rs ih =>
  intro hrs b1 hb
  have hr := hrs r (by simp)
  have ih' := ih (fun x hx => hrs x (by simp [hx]))
  have e1 : escEls nl (r :: rs) = escEl nl r ++ escEls nl rs := rfl
  rw [e1, nb_cons]
  have hone : ∀ (e : El) (o : List UInt8), El.out b1 e = o -> (El.next b1 e).2 ≠ 13 -> elsOut b1 ([e] ++ escEls nl rs) = o ++ nb rs := by
   intro e o ho hn
   show El.out b1 e ++ elsOut (El.next b1 e).2 (escEls nl rs) = _
   rw [ho, ih' _ hn]
  unfold escEl
  split
  ·rename_i h; subst h; exact hone _ _ (by first | (simp only [El.out]; decide) | simp [El.out]) (by simp [El.next])
  split
  ·rename_i h; subst h; exact hone _ _ (by first | (simp only [El.out]; decide) | simp [El.out]) (by simp [El.next])
  split
  ·rename_i h; subst h; exact hone _ _ (by first | (simp only [El.out]; decide) | simp [El.out]) (by simp [El.next])
  split
  ·rename_i h; subst h; exact hone _ _ (by first | (simp only [El.out]; decide) | simp [El.out]) (by simp [El.next])
  split
  ·rename_i h; subst h; exact hone _ _ (by first | (simp only [El.out]; decide) | simp [El.out]) (by simp [El.next])
  split
  ·rename_i h; subst h; exact hone _ _ (by first | (simp only [El.out]; decide) | simp [El.out]) (by simp [El.next])
  split
  ·rename_i h; subst h
   split
   ·exact hone _ _ (by first | (simp only [El.out]; decide) | simp [El.out]) (by simp [El.next])
   ·exact hone _ _ (by simp [El.out, hb, u8]) (by simp [El.next])
  split
  ·rename_i h; subst h; exact hone _ _ (by first | (simp only [El.out]; decide) | simp [El.out]) (by simp [El.next])
  ·rename_i h1 h2 h3 h4 h5 h6 h7 h8
   refine by_out (u8 r) b1 _ _ (fun c hc => ?_) hb (fun b1' hb' => ih' b1' hb')
   by_cases h128 : r < 128
   ·rw [u8_ascii h128] at hc
    obtain rfl : c = UInt8.ofNat r := by simpa using hc
    intro e
    have := congrArg UInt8.toNat e
    rw [ofNat_toNat (by omega)] at this
    exact h8 this
   ·have hge := u8_bytes (isCh_ok hr) (by omega) c hc
    rintro rfl
    exact absurd hge (by decide)
def atOf (x : List Nat × List Nat) : At := ⟨[32], x.1, [], [], true, escEls true x.2, x.2⟩
def itemOf : Tk -> Item
 | .st nm kv => .st nm (kv.map atOf) [] false
 | .en nm => .en nm []
 | .tx rs => .tx (escEls false rs) rs
 | .cm d => .cm d
 | .pi nm d => .pi nm (if d = [] then [] else [32]) d
theorem atOf_src (x : List Nat × List Nat) : (atOf x).src = attrOut x := by
 simp [atOf, At.src, attrOut, quo, escEls_src]
theorem itemOf_src (t : Tk) : (itemOf t).src = tkOut t := by
 cases t with
 | st nm kv =>
  have : (kv.map atOf).flatMap At.src = attrsOut kv := by
   induction kv with
   | nil => rfl
   | cons x kv ih =>
    rw [List.map_cons, List.flatMap_cons, ih, atOf_src]; rfl
  simp [itemOf, Item.src, tkOut, startOut, this, endSrc]
 | en nm => simp [itemOf, Item.src, tkOut]
 | tx rs => exact escEls_src false rs
 | cm d => simp [itemOf, Item.src, tkOut]
 | pi nm d =>
  by_cases h : d = []
  ·simp [itemOf, Item.src, tkOut, h]
  ·simp [itemOf, Item.src, tkOut, h]
theorem itemOf_toks (t : Tk) : (itemOf t).toks = [t] := by
 cases t with
 | st nm kv =>
  have : (kv.map atOf).map At.kv = kv := by
   rw [List.map_map]
   have : (At.kv ∘ atOf) = id := by funext x; rfl
   rw [this, List.map_id]
  simp [itemOf, Item.toks, this]
 | en nm => rfl
 | tx rs => rfl
 | cm d => rfl
 | pi nm d => rfl
theorem itemOf_ok {t : Tk} (h : tkOk t) (hne : t ≠ .tx []) : (itemOf t).ok := by
 cases t with
 | st nm kv =>
  refine ⟨h.1, h.2.1, fun a ha => ?_, fun b hb => by cases hb⟩
  obtain ⟨x, hx, rfl⟩ := List.mem_map.1 ha
  obtain ⟨h1, h2, h3⟩ := h.2.2 x hx
  refine ⟨⟨?_, ?_, ?_, h1, ?_, ?_, h3⟩, by simp [atOf], h2⟩
  ·intro b hb
   obtain rfl : b = 32 := by simpa [atOf] using hb
   rfl
  ·intro b hb; cases hb
  ·intro b hb; cases hb
  ·exact esc_ok (by intro c hc; simp [atOf, quoL] at hc; exact hc) x.2 h3 _ _ (by decide)
  ·exact esc_out x.2 h3 _ (by decide)
 | en nm => exact ⟨h.1, h.2, fun b hb => by cases hb⟩
 | tx rs =>
  refine ⟨esc_ok (by intro c hc; simp at hc; rcases hc with h | h <;> simp [h]) rs h _ _ (by decide), fun e => ?_, esc_out rs h _ (by decide), h⟩
  cases rs with
  | nil => exact hne rfl
  | cons r rs =>
   have e' := congrArg (fun l => (srcs l).length) e
   simp only [escEls_src] at e'
   have e2 : escL false (r :: rs) = esc false r ++ escL false rs := rfl
   rw [e2, List.length_append] at e'
   have : 1 <= (esc false r).length := by
    unfold esc
    have := (u8_len r).1
    repeat' split
    all_goals simp <;> omega
   simp [srcs] at e'
   have := e'.1
   simp_all
 | cm d => exact h
 | pi nm d =>
  obtain ⟨h1, h2, h3, h4⟩ := h
  refine ⟨h1, fun b hb => ?_, ?_, h2, h3, h4⟩
  ·by_cases hd : d = []
   ·simp [hd] at hb
   ·simp [hd] at hb; subst hb; rfl
  ·by_cases hd : d = []
   ·exact .inl hd
   ·right; simp [hd]
theorem itemOf_isTx (t : Tk) : (itemOf t).isTx = t.isTx := by cases t <;> rfl
theorem doc_of : ∀ (l : List Tk) (o : List (List Nat)), noAdj l -> (∀ t ∈ l, tkOk t) -> nestL o l = some [] -> docOk o (l.map itemOf) := by
 intro l
 induction l with
 | nil => intro o _ _ h; exact Option.some.inj h
 | cons t l ih =>
  intro o hadj hok hn
  have hk := hok t (by simp)
  have hne : t ≠ .tx [] := by rintro rfl; exact (hadj.1 rfl).1 rfl
  refine ⟨itemOf_ok hk hne, fun htx j m e => ?_, ?_⟩
  ·cases l with
   | nil => cases e
   | cons u l =>
    cases e
    rw [itemOf_isTx] at htx ⊢
    exact (hadj.1 htx).2 u l rfl
  ·have ih' := fun o => ih o hadj.2 (fun t ht => hok t (by simp [ht]))
   cases t with
   | st nm kv => exact ih' _ hn
   | en nm =>
    cases o with
    | nil => simp [nestL, nestS] at hn
    | cons x o =>
     by_cases hx : x = nm
     ·subst hx
      simp [nestL, nestS] at hn
      exact ⟨o, rfl, ih' _ hn⟩
     ·simp [nestL, nestS, hx] at hn
   | tx rs => exact ih' _ hn
   | cm d => exact ih' _ hn
   | pi nm d => exact ih' _ hn
theorem srcI_map (l : List Tk) : srcI (l.map itemOf) = toksOut l := by
 induction l with
 | nil => rfl
 | cons t l ih => rw [List.map_cons, srcI_cons, itemOf_src, ih, toksOut_cons]
theorem toksI_map (l : List Tk) : toksI (l.map itemOf) = l := by
 induction l with
 | nil => rfl
 | cons t l ih =>
  show (itemOf t).toks ++ toksI (l.map itemOf) = t :: l
  rw [ih, itemOf_toks]; rfl
theorem toks_of : ∀ (l : List Item) (o : List (List Nat)), docOk o l -> (∀ t ∈ toksI l, tkOk t) /\ nestL o (toksI l) = some [] := by
 intro l
 induction l with
 | nil => rintro o rfl; exact ⟨fun t h => (by cases h), rfl⟩
 | cons i l ih =>
  rintro o ⟨hok, _, hd⟩
  have e : toksI (i :: l) = i.toks ++ toksI l := rfl
  rw [e]
  cases i with
  | st nm ats ws emp =>
   obtain ⟨h1, h2, h3, _⟩ := hok
   have hst : tkOk (.st nm (ats.map At.kv)) := ⟨h1, h2, fun x hx => by
    obtain ⟨a, ha, rfl⟩ := List.mem_map.1 hx
    obtain ⟨k1, _, k3⟩ := h3 a ha
    exact ⟨k1.name, k3, k1.ch⟩⟩
   cases emp with
   | false =>
    obtain ⟨k1, k2⟩ := ih _ hd
    refine ⟨fun t ht => ?_, k2⟩
    rcases List.mem_append.1 ht with h | h
    ·obtain rfl : t = _ := by simpa [Item.toks] using h
     exact hst
    ·exact k1 t h
   | true =>
    obtain ⟨k1, k2⟩ := ih _ hd
    refine ⟨fun t ht => ?_, ?_⟩
    ·rcases List.mem_append.1 ht with h | h
     ·have h' : t = .st nm (ats.map At.kv) \/ t = .en nm := by simpa [Item.toks] using h
      rcases h' with rfl | rfl
      ·exact hst
      ·exact ⟨h1, h2⟩
     ·exact k1 t h
    ·simp [Item.toks, nestL, nestS]
     exact k2
  | en nm ws =>
   obtain ⟨o', rfl, hd'⟩ := hd
   obtain ⟨k1, k2⟩ := ih _ hd'
   refine ⟨fun t ht => ?_, ?_⟩
   ·rcases List.mem_append.1 ht with h | h
    ·obtain rfl : t = _ := by simpa [Item.toks] using h
     exact ⟨hok.1, hok.2.1⟩
    ·exact k1 t h
   ·simp [Item.toks, nestL, nestS]
    exact k2
  | tx els rs =>
   obtain ⟨k1, k2⟩ := ih _ hd
   refine ⟨fun t ht => ?_, k2⟩
   rcases List.mem_append.1 ht with h | h
   ·obtain rfl : t = _ := by simpa [Item.toks] using h
    exact hok.2.2.2
   ·exact k1 t h
  | cd els rs =>
   obtain ⟨k1, k2⟩ := ih _ hd
   refine ⟨fun t ht => ?_, k2⟩
   rcases List.mem_append.1 ht with h | h
   ·obtain rfl : t = _ := by simpa [Item.toks] using h
    exact hok.2.2.2
   ·exact k1 t h
  | cm d =>
   obtain ⟨k1, k2⟩ := ih _ hd
   refine ⟨fun t ht => ?_, k2⟩
   rcases List.mem_append.1 ht with h | h
   ·obtain rfl : t = _ := by simpa [Item.toks] using h
    exact hok
   ·exact k1 t h
  | pi nm ws d =>
   obtain ⟨k1, k2⟩ := ih _ hd
   refine ⟨fun t ht => ?_, k2⟩
   rcases List.mem_append.1 ht with h | h
   ·obtain rfl : t = _ := by simpa [Item.toks] using h
    exact ⟨hok.1, hok.2.2.2.1, hok.2.2.2.2.1, hok.2.2.2.2.2⟩
   ·exact k1 t h
theorem elsOut_len : ∀ (l : List El) (q : List UInt8) (chk refs : Bool) (b0 b1 : UInt8), elsOk q chk refs b0 b1 l -> (elsOut b1 l).length <= (srcs l).length := by
 intro l
 induction l with
 | nil => intro _ _ _ _ _ _; exact Nat.le_refl _
 | cons e l ih =>
  intro q chk refs b0 b1 h
  have := ih q chk refs _ _ h.2
  have e1 : elsOut b1 (e :: l) = e.out b1 ++ elsOut (e.next b1).2 l := rfl
  rw [e1, srcs_cons, List.length_append, List.length_append]
  have : (e.out b1).length <= e.src.length := by
   cases e with
   | «by» c =>
    simp only [El.out, El.src]
    repeat' split
    all_goals simp
   | num hex ds =>
    have h1 : 1 <= ds.length := by
     have := h.1.2.1
     cases ds with
     | nil => exact absurd rfl this
     | cons a b => simp
    have := (u8_len (numFrom (El.base hex) 0 ds)).2
    simp only [El.out, El.src, List.length_cons, List.length_append, List.length_nil]
    omega
   | nam s r =>
    have := (ents_ok h.1.2).1
    simp only [El.out, El.src, u8_ascii this, List.length_cons, List.length_append, List.length_nil]
    omega
  omega
theorem escL_le {nl : Bool} {rs : List Nat} {els : List El} {q : List UInt8} {chk refs : Bool} (h : elsOk q chk refs 0 0 els) {o : List UInt8} (ho : elsOut 0 els = nb rs ++ o) : (escL nl rs).length <= 5 * (srcs els).length := by
 have h1 := escL_len nl rs
 have h2 := nb_len_ge rs
 have h3 := elsOut_len els q chk refs 0 0 h
 rw [ho, List.length_append] at h3
 omega
theorem attrs_le : ∀ (ats : List At), (∀ a ∈ ats, a.ok /\ a.ws0 ≠ []) -> (attrsOut (ats.map At.kv)).length <= 5 * (ats.flatMap At.src).length := by
 intro ats
 induction ats with
 | nil => intro _; simp [attrsOut]
 | cons a ats ih =>
  intro h
  have ih' := ih (fun x hx => h x (by simp [hx]))
  have ha := h a (by simp)
  have e1 : attrsOut ((a :: ats).map At.kv) = attrOut a.kv ++ attrsOut (ats.map At.kv) := rfl
  rw [e1, List.flatMap_cons, List.length_append, List.length_append]
  have h1 := escL_le (nl := true) (rs := a.rs) ha.1.els (o := []) (by rw [ha.1.out, List.append_nil])
  have h2 : (attrOut a.kv).length = (nb a.nm).length + (escL true a.rs).length + 4 := by
   simp [attrOut, At.kv]; omega
  have h3 : a.src.length = a.ws0.length + (nb a.nm).length + a.ws1.length + a.ws2.length + (srcs a.els).length + 3 := by
   simp [At.src]; omega
  have h4 : 1 <= a.ws0.length := by
   have := ha.2
   cases hw : a.ws0 with
   | nil => exact absurd hw this
   | cons x y => simp
  omega
theorem item_le {i : Item} (h : i.ok) : (toksOut i.toks).length <= 5 * i.src.length /\ i.toks.length <= 2 * i.src.length /\ 1 <= i.src.length := by
 cases i with
 | st nm ats ws emp =>
  obtain ⟨h1, h2, h3, _⟩ := h
  have ha := attrs_le ats (fun a ha => ⟨(h3 a ha).1, (h3 a ha).2.1⟩)
  have hn : 1 <= (nb nm).length := by
   have := h1.nb_ne
   cases hw : nb nm with
   | nil => exact absurd hw this
   | cons x y => simp
  cases emp with
  | false =>
   simp only [Item.toks, Bool.false_eq_true, if_false, toksOut_one, tkOut, startOut, Item.src, endSrc, List.length_append, List.length_cons, List.length_nil]
   omega
  | true =>
   rw [show (Item.st nm ats ws true).toks = [.st nm (ats.map At.kv), .en nm] from rfl, toksOut_cons, toksOut_one]
   simp only [tkOut, startOut, Item.src, endSrc, List.length_append, List.length_cons, List.length_nil]
   omega
 | en nm ws =>
  simp only [Item.toks, toksOut_one, tkOut, Item.src, List.length_append, List.length_cons, List.length_nil]
  omega
 | tx els rs =>
  obtain ⟨h1, h2, h3, _⟩ := h
  have := escL_le (nl := false) (rs := rs) h1 (o := []) (by rw [h3, List.append_nil])
  have hl : 1 <= (srcs els).length := by
   cases els with
   | nil => exact absurd rfl h2
   | cons e l =>
    rw [srcs_cons, List.length_append]
    have : 1 <= e.src.length := by cases e <;> simp [El.src]
    omega
  simp only [Item.toks, toksOut_one, tkOut, Item.src, List.length_cons, List.length_nil]
  omega
 | cd els rs =>
  obtain ⟨h1, h2, h3, _⟩ := h
  have := escL_le (nl := false) (rs := rs) h1 h3
  simp only [Item.toks, toksOut_one, tkOut, Item.src, List.length_append, List.length_cons, List.length_nil]
  omega
 | cm d =>
  simp only [Item.toks, toksOut_one, tkOut, Item.src, List.length_append, List.length_cons, List.length_nil]
  omega
 | pi nm ws d =>
  simp only [Item.toks, toksOut_one, tkOut, Item.src, List.length_append, List.length_cons, List.length_nil]
  by_cases hd : d = []
  ·simp [hd]; omega
  ·simp [hd]; omega
theorem doc_le : ∀ (l : List Item) (o : List (List Nat)), docOk o l -> (toksOut (toksI l)).length <= 5 * (srcI l).length /\ (toksI l).length <= 2 * (srcI l).length := by
 intro l
 induction l with
 | nil => intro o _; simp [toksI, toksOut, srcI]
 | cons i l ih =>
  rintro o ⟨hok, _, hd⟩
  have hi := item_le hok
  have hl : (toksOut (toksI l)).length <= 5 * (srcI l).length /\ (toksI l).length <= 2 * (srcI l).length := by
   cases i with
   | en nm ws => obtain ⟨o', _, hd'⟩ := hd; exact ih _ hd'
   | st nm ats ws emp => exact ih _ hd
   | tx els rs => exact ih _ hd
   | cd els rs => exact ih _ hd
   | cm d => exact ih _ hd
   | pi nm ws d => exact ih _ hd
  have e : toksI (i :: l) = i.toks ++ toksI l := rfl
  rw [e, srcI_cons, toksOut_app]
  simp only [List.length_append]
  omega
end Go.Proofs.YtepbbahdhhjibaaGreatDoor
