/- own text -/
import Derived.BigRegion
import Derived.Stop.Asserts
import Derived.Test.YtepbbahdhhjibaaGreatDoorD17
namespace Go.Proofs.YtepbbahdhhjibaaGreatDoor
set_option linter.unusedSimpArgs false
set_option linter.unusedVariables false
set_option maxHeartbeats 4000000
set_option maxRecDepth 100000
section
open Go.RowKit
theorem start_head {ats : List At} {ws : List UInt8} {emp : Bool} {tl : List UInt8} (ha : ∀ a ∈ ats, a.ok /\ a.ws0 ≠ [] /\ (nb a.nm == [120, 109, 108, 110, 115]) = false) (hws : ∀ b ∈ ws, isWs b = true) : ∃ c t, ats.flatMap At.src ++ (ws ++ endSrc emp tl) = c :: t /\ nmB c = false := by
 cases ats with
 | nil =>
  cases emp with
  | false => exact ws_head hws 62 (by decide) tl
  | true => exact ws_head hws 47 (by decide) (62 :: tl)
 | cons a ats =>
  obtain ⟨h1, h2, _⟩ := ha a (by simp)
  cases hw : a.ws0 with
  | nil => exact absurd hw h2
  | cons b t =>
   refine ⟨b, t ++ (nb a.nm ++ (a.ws1 ++ 61 :: (a.ws2 ++ quo a.dbl :: (srcs a.els ++ [quo a.dbl])))) ++ ats.flatMap At.src ++ (ws ++ endSrc emp tl), by simp [At.src, hw], ?_⟩
   have hb := h1.w0 b (by rw [hw]; simp)
   have hb' : b = 32 \/ b = 13 \/ b = 10 \/ b = 9 := by simpa [isWs, or_assoc] using hb
   rcases hb' with rfl | rfl | rfl | rfl <;> decide
theorem step_st (E : Dx) (w : World) (v : Value) (nodes : List Nat) (nm : List Nat) (ats : List At) (ws : List UInt8) (emp : Bool) (items : List Item) (h : DSt E w v nodes none (.st nm ats ws emp :: items)) :
  Calls Tryz.prog 38 #[.pointer (some ⟨E.D, 0, none⟩)] w fun e w' => ∃ t, e = .returned (.tuple #[t, .nilIface]) /\ StepP E w v nodes (.st nm (ats.map At.kv)) ((if emp then [.en nm] else []) ++ toksI items) t w' := by
 obtain ⟨p, bs, opn, eo, hd, he, ⟨⟨hnm, hx, hats, hws⟩, _, hdoc⟩, hlen, hn, hk⟩ := h.ex
 cases eo with
 | true => exact absurd (he rfl) (by simp)
 | false =>
  have hsrc : srcI (.st nm ats ws emp :: items) = 60 :: (nb nm ++ (ats.flatMap At.src ++ (ws ++ endSrc emp (srcI items)))) := by
   rw [srcI_cons]; cases emp <;> simp [Item.src, endSrc]
  rw [hsrc] at hd hlen
  simp only [List.length_cons, List.length_append] at hlen
  have hac := at_count ats
  have hes : (srcI items).length + 1 <= (endSrc emp (srcI items)).length := by cases emp <;> simp [endSrc]
  obtain ⟨c, t, hct, hc⟩ := start_head (emp := emp) (tl := srcI items) hats hws
  have hr := rawToken_start E p v bs nm ats ws emp (srcI items) w hn hnm (by omega) (fun a ha => (hats a ha).1) (fun a ha => by have := at_len ha; omega) (by omega) hws c t hct hc hd
  refine (token_start_in E p v bs _ (srcI items) opn nodes nm ats emp (if emp then ⟨#[]⟩ else p.tcS) (if emp then nameB nm else p.tcL) w hx (fun a ha => (hats a ha).2.2) (by omega) (by omega) hd hk (hr.mono ?_)).mono ?_
  ·rintro e w' ⟨va, v', bs', rfl, h1, h2, h3, h4, h5⟩
   refine ⟨va, v', _, bs', rfl, h1, h2, ?_, ?_, ?_, ⟨?_, ?_, ?_⟩, h4, h5⟩
   all_goals (cases emp <;> first | rfl | exact hn)
  ·rintro e w' ⟨va, rfl, hP⟩
   obtain ⟨v', p', bs', nodes', h1, h2, h3, h4, h5, n1, n2, n3⟩ := hP.ex
   obtain ⟨pa, ca, rfl⟩ : ∃ pa ca, va = .slice pa ats.length ca := by
    rcases h4.2 with ⟨hv, h0⟩ | ⟨g, cap, cur, hv, _⟩
    ·exact ⟨none, 0, by rw [hv, h0]⟩
    ·exact ⟨_, _, hv⟩
   refine ⟨_, rfl, v', nodes', if emp then some nm else none, items, ⟨p', bs', if emp then opn else nm :: opn, false, h1, (fun h => absurd h (by decide)), hdoc, ?_, ?_⟩, ?_, h3, ats, pa, ca, rfl, rfl, h4, by omega⟩
   ·cases emp
    ·simp only [Bool.false_eq_true, if_false, List.length_cons]; omega
    ·simp only [if_true]; omega
   ·cases emp
    ·exact ⟨n1, h2⟩
    ·exact ⟨n1, n2, n3, hx, rfl, h2⟩
   ·cases emp <;> rfl
theorem step_en (E : Dx) (w : World) (v : Value) (nodes : List Nat) (nm : List Nat) (ws : List UInt8) (items : List Item) (h : DSt E w v nodes none (.en nm ws :: items)) :
  Calls Tryz.prog 38 #[.pointer (some ⟨E.D, 0, none⟩)] w fun e w' => ∃ t, e = .returned (.tuple #[t, .nilIface]) /\ StepP E w v nodes (.en nm) (toksI items) t w' := by
 obtain ⟨p, bs, opn, eo, hd, he, ⟨⟨hnm, hx, hws⟩, _, opn', rfl, hdoc⟩, hlen, hn, hk⟩ := h.ex
 cases eo with
 | true => exact absurd (he rfl) (by simp)
 | false =>
  have hsrc : srcI (.en nm ws :: items) = 60 :: 47 :: (nb nm ++ (ws ++ 62 :: srcI items)) := by rw [srcI_cons]; simp [Item.src]
  rw [hsrc] at hd hlen
  simp only [List.length_cons, List.length_append] at hlen
  have hr := rawToken_close E p v bs nm ws (srcI items) w hn hnm hws (by omega) hd
  refine (token_close_in E p v bs _ (srcI items) opn' nodes nm w hx (by omega) hd hk (hr.mono ?_)).mono ?_
  ·rintro e w' ⟨v', rfl, h1, h2, _⟩
   exact ⟨v', p, _, rfl, h1, h2, rfl, rfl, rfl, hn⟩
  ·rintro e w' ⟨v', p', bs', nodes', rfl, h1, h2, h3, h4⟩
   exact ⟨_, rfl, v', nodes', none, items, ⟨p', bs', opn', false, h1, (fun h => absurd h (by decide)), hdoc, by omega, h3, h2⟩, rfl, h4, rfl⟩
theorem step_tx (E : Dx) (w : World) (v : Value) (nodes : List Nat) (els : List El) (rs : List Nat) (items : List Item) (h : DSt E w v nodes none (.tx els rs :: items)) :
  Calls Tryz.prog 38 #[.pointer (some ⟨E.D, 0, none⟩)] w fun e w' => ∃ t, e = .returned (.tuple #[t, .nilIface]) /\ StepP E w v nodes (.tx rs) (toksI items) t w' := by
 obtain ⟨p, bs, opn, eo, hd, he, ⟨⟨hlo, hne, hout, hrs⟩, hnx, hdoc⟩, hlen, hn, hk⟩ := h.ex
 cases eo with
 | true => exact absurd (he rfl) (by simp)
 | false =>
  have hsrc : srcI (.tx els rs :: items) = srcs els ++ srcI items := by rw [srcI_cons]; rfl
  rw [hsrc] at hd hlen
  simp only [List.length_append] at hlen
  cases items with
  | nil =>
   have e0 : srcs els ++ srcI [] = srcs els := by simp [srcI]
   rw [e0] at hd
   refine step_plain (.tx rs) 113 (by decide) hd hn hk hdoc (by simp [srcI]; omega) ((rawToken_text_eof E p v bs els rs w hn hlo hne (by omega) hrs hout hd).mono ?_)
   rintro e w' ⟨g, cap, v', rfl, h1, h2, h3, h4⟩
   exact ⟨_, v', _, true, rfl, h1, fun _ => rfl, h2, g, cap, rfl, h4⟩
  | cons j m =>
   obtain ⟨t, ht⟩ := head_lt (hnx rfl j m rfl)
   have e0 : srcI (j :: m) = 60 :: (t ++ srcI m) := by rw [srcI_cons, ht]; rfl
   rw [e0] at hd
   refine step_plain (.tx rs) 113 (by decide) hd hn hk hdoc (by omega) ((rawToken_text_lt E p v bs (t ++ srcI m) els rs w hn hlo hne (by omega) hrs hout hd).mono ?_)
   rintro e w' ⟨g, cap, v', rfl, h1, h2, h3, h4⟩
   exact ⟨_, v', _, false, rfl, by rw [e0]; exact h1, fun h => absurd h (by decide), h2, g, cap, rfl, h4⟩
theorem step_cd (E : Dx) (w : World) (v : Value) (nodes : List Nat) (els : List El) (rs : List Nat) (items : List Item) (h : DSt E w v nodes none (.cd els rs :: items)) :
  Calls Tryz.prog 38 #[.pointer (some ⟨E.D, 0, none⟩)] w fun e w' => ∃ t, e = .returned (.tuple #[t, .nilIface]) /\ StepP E w v nodes (.tx rs) (toksI items) t w' := by
 obtain ⟨p, bs, opn, eo, hd, he, ⟨⟨hlo, hE, hout, hrs⟩, hnx, hdoc⟩, hlen, hn, hk⟩ := h.ex
 cases eo with
 | true => exact absurd (he rfl) (by simp)
 | false =>
  have hsrc : srcI (.cd els rs :: items) = 60 :: 33 :: 91 :: 67 :: 68 :: 65 :: 84 :: 65 :: 91 :: (srcs els ++ 62 :: srcI items) := by rw [srcI_cons]; simp [Item.src]
  rw [hsrc] at hd hlen
  simp only [List.length_cons, List.length_append] at hlen
  refine step_plain (.tx rs) 113 (by decide) hd hn hk hdoc (by omega) ((rawToken_cd E p v bs (srcI items) els rs w hn hlo hE (by omega) hrs hout hd).mono ?_)
  rintro e w' ⟨g, cap, v', bs', rfl, h1, h2, h3, h4⟩
  exact ⟨_, v', _, false, rfl, h1, fun h => absurd h (by decide), h2, g, cap, rfl, h4⟩
theorem step_cm (E : Dx) (w : World) (v : Value) (nodes : List Nat) (d : List UInt8) (items : List Item) (h : DSt E w v nodes none (.cm d :: items)) :
  Calls Tryz.prog 38 #[.pointer (some ⟨E.D, 0, none⟩)] w fun e w' => ∃ t, e = .returned (.tuple #[t, .nilIface]) /\ StepP E w v nodes (.cm d) (toksI items) t w' := by
 obtain ⟨p, bs, opn, eo, hd, he, ⟨hpath, hnx, hdoc⟩, hlen, hn, hk⟩ := h.ex
 cases eo with
 | true => exact absurd (he rfl) (by simp)
 | false =>
  have hsrc : srcI (.cm d :: items) = 60 :: 33 :: 45 :: 45 :: (d ++ 45 :: 45 :: 62 :: srcI items) := by rw [srcI_cons]; simp [Item.src]
  rw [hsrc] at hd hlen
  simp only [List.length_cons, List.length_append] at hlen
  refine step_plain (.cm d) 114 (by decide) hd hn hk hdoc (by omega) ((rawToken_cm E p v bs d (srcI items) w hn (by omega) hpath hd).mono ?_)
  rintro e w' ⟨g, cap, v', rfl, h1, h2, h3, h4⟩
  exact ⟨_, v', _, false, rfl, h1, fun h => absurd h (by decide), h2, g, cap, rfl, h4⟩
theorem step_pi (E : Dx) (w : World) (v : Value) (nodes : List Nat) (nm : List Nat) (ws d : List UInt8) (items : List Item) (h : DSt E w v nodes none (.pi nm ws d :: items)) :
  Calls Tryz.prog 38 #[.pointer (some ⟨E.D, 0, none⟩)] w fun e w' => ∃ t, e = .returned (.tuple #[t, .nilIface]) /\ StepP E w v nodes (.pi nm d) (toksI items) t w' := by
 obtain ⟨p, bs, opn, eo, hd, he, ⟨⟨hnm, hws, hdw, hd1, hpath, hxml⟩, hnx, hdoc⟩, hlen, hn, hk⟩ := h.ex
 cases eo with
 | true => exact absurd (he rfl) (by simp)
 | false =>
  have hsrc : srcI (.pi nm ws d :: items) = 60 :: 63 :: (nb nm ++ (ws ++ (d ++ 63 :: 62 :: srcI items))) := by rw [srcI_cons]; simp [Item.src]
  rw [hsrc] at hd hlen
  simp only [List.length_cons, List.length_append] at hlen
  obtain ⟨c1, X, hX, hc1⟩ : ∃ c1 X, d ++ 63 :: 62 :: srcI items = c1 :: X /\ isWs c1 = false := by
   cases d with
   | nil => exact ⟨63, _, rfl, by decide⟩
   | cons a t => exact ⟨a, _, rfl, hd1 a t rfl⟩
  obtain ⟨c, Y, hY, hc⟩ : ∃ c Y, ws ++ c1 :: X = c :: Y /\ nmB c = false := by
   cases ws with
   | nil =>
    have hd0 : d = [] := hdw.elim id (fun h => absurd rfl h)
    subst hd0
    have : c1 = 63 := by simpa using (List.cons.inj hX).1.symm
    subst this
    exact ⟨63, X, rfl, by decide⟩
   | cons b t =>
    refine ⟨b, _, rfl, ?_⟩
    have hb' : b = 32 \/ b = 13 \/ b = 10 \/ b = 9 := by simpa [isWs, or_assoc] using hws b (by simp)
    rcases hb' with rfl | rfl | rfl | rfl <;> decide
  refine step_plain (.pi nm d) 116 (by decide) hd hn hk hdoc (by omega) ((rawToken_pi E p v bs nm ws d (srcI items) c1 X w hn hnm hws (by omega) (by omega) hX hc1 c Y hY hc hpath hxml hd).mono ?_)
  rintro e w' ⟨g, cap, v', rfl, h1, h2, h3, h4⟩
  exact ⟨_, v', _, false, rfl, h1, fun h => absurd h (by decide), h2, g, cap, rfl, h4⟩
theorem step_do (E : Dx) (w : World) (v : Value) (nodes : List Nat) (pend : Option (List Nat)) (items : List Item) (tk : Tk) (rest : List Tk) (h : DSt E w v nodes pend items) (ht : toksP pend items = tk :: rest) :
  Calls Tryz.prog 38 #[.pointer (some ⟨E.D, 0, none⟩)] w fun e w' => ∃ t, e = .returned (.tuple #[t, .nilIface]) /\ StepP E w v nodes tk rest t w' := by
 cases pend with
 | some nm =>
  obtain ⟨rfl, rfl⟩ : .en nm = tk /\ toksI items = rest := by simpa [toksP] using ht
  exact step_pend E w v nodes nm items h
 | none =>
  cases items with
  | nil => simp [toksP, toksI] at ht
  | cons i items =>
   cases i with
   | st nm ats ws emp =>
    obtain ⟨rfl, rfl⟩ : .st nm (ats.map At.kv) = tk /\ (if emp then [.en nm] else []) ++ toksI items = rest := by simpa [toksP, toksI, Item.toks] using ht
    exact step_st E w v nodes nm ats ws emp items h
   | en nm ws =>
    obtain ⟨rfl, rfl⟩ : .en nm = tk /\ toksI items = rest := by simpa [toksP, toksI, Item.toks] using ht
    exact step_en E w v nodes nm ws items h
   | tx els rs =>
    obtain ⟨rfl, rfl⟩ : .tx rs = tk /\ toksI items = rest := by simpa [toksP, toksI, Item.toks] using ht
    exact step_tx E w v nodes els rs items h
   | cd els rs =>
    obtain ⟨rfl, rfl⟩ : .tx rs = tk /\ toksI items = rest := by simpa [toksP, toksI, Item.toks] using ht
    exact step_cd E w v nodes els rs items h
   | cm d =>
    obtain ⟨rfl, rfl⟩ : .cm d = tk /\ toksI items = rest := by simpa [toksP, toksI, Item.toks] using ht
    exact step_cm E w v nodes d items h
   | pi nm ws d =>
    obtain ⟨rfl, rfl⟩ : .pi nm d = tk /\ toksI items = rest := by simpa [toksP, toksI, Item.toks] using ht
    exact step_pi E w v nodes nm ws d items h
theorem item_toks_ne (i : Item) : i.toks ≠ [] := by cases i <;> simp [Item.toks]
theorem step_eof (E : Dx) (hE : E.et = 192) (w : World) (v : Value) (nodes : List Nat) (pend : Option (List Nat)) (items : List Item) (h : DSt E w v nodes pend items) (ht : toksP pend items = []) :
  Calls Tryz.prog 38 #[.pointer (some ⟨E.D, 0, none⟩)] w fun e w' => e = .returned (.tuple #[.nilIface, E.eof]) /\ St E w v w' v /\ w'.cell? ⟨0, 0, none⟩ = some E.eof := by
 cases pend with
 | some nm => simp [toksP] at ht
 | none =>
  cases items with
  | cons i items => simp [toksP, toksI, item_toks_ne] at ht
  | nil =>
   obtain ⟨p, bs, opn, eo, hd, he, hdoc, hlen, hn, hk⟩ := h.ex
   have hopn : opn = [] := hdoc
   subst hopn
   have hk11 : ∀ w', St E w v w' v -> ∀ eo', Dec E w' p v bs true eo' [] -> w'.cell? ⟨E.D, 11, none⟩ = some (.pointer none) := fun w' hs eo' hd' => by
    rcases stk_head hd' (hk.step hs) with ⟨_, h⟩ | ⟨b, h, _⟩
    ·exact h
    ·exact absurd rfl h
   cases eo with
   | false =>
    refine token_eof E p v bs _ true false nodes w (fun w' => St E w v w' v /\ w'.cell? ⟨0, 0, none⟩ = some E.eof) hE hd hk ((rawToken_end E p v bs w hn hd).mono ?_)
    rintro e w' ⟨rfl, h1, h2⟩
    exact ⟨rfl, h1.hG, hk11 w' h2 true h1, h2, h1.hG⟩
   | true =>
    refine token_eof E p v bs _ true true nodes w (fun w' => St E w v w' v /\ w'.cell? ⟨0, 0, none⟩ = some E.eof) hE hd hk ((rawToken_after E p v bs w hd).mono ?_)
    rintro e w' ⟨rfl, h1, h2⟩
    exact ⟨rfl, h1.hG, hk11 w' h2 true h1, h2, h1.hG⟩
end
section
open Go.RowKit
theorem ta_77_142 (x : Value) (w : World) : (Instr.typeAssert (.iface 77 x) 138 142 true).run Tryz.prog w = .ok (.tuple #[.nilIface, .bool false]) w := run_typeAssert_lacksB Tryz.underlying142 (by kernel_rfl) (by kernel_rfl) x 138 w
theorem run_makeMap98 (w : World) : (Instr.makeMap 98 none).run Tryz.prog w = .ok (.map (some w.heap.size)) (w.alloc (.map #[] 0)) := by kernel_rfl
theorem ta_77_259 (x : Value) (w : World) : (Instr.typeAssert (.iface 77 x) 138 259 true).run Tryz.prog w = .ok (.tuple #[.pointer none, .bool false]) w := by kernel_rfl
theorem mk4096 (w1 : World) : (Instr.makeSlice 56 (.int .i64 4096) (.int .i64 4096)).run Tryz.prog w1 = .ok (.slice (some ⟨w1.heap.size, 0, none⟩) 4096 4096) (w1.alloc (.cells (madeCells #[.int .u8 0] 4096) 5)) := by
 obtain ⟨i0, hi, hz0, hz1, hz2⟩ := info_parts info5
 have := run_make (P := Tryz.prog) w1 56 5 i0 (.int .u8 0) Tryz.underlying56 hi hz0 .i64 .i64 4096 4096 (by omega) (by omega) (by rw [hz2]; omega) (by omega)
 rw [hz1] at this
 exact this
def pa0 : Pa := ⟨.pointer none, 0, .pointer none, false, ⟨#[]⟩, ⟨#[]⟩⟩
def dx0 (B n RD : Nat) (ep : Addr) : Dx := ⟨B, n + 1, n + 2, n + 3, RD, 192, ep, .map (some n), .map none⟩
structure Made (w : World) (RD : Nat) (w' : World) : Prop where
 mp : w'.heap[w.heap.size]? = some (.map #[] 0)
 D : ∀ ep B, Blk w' (w.heap.size + 1) (decA (dx0 B w.heap.size RD ep) pa0 (.slice none 0 0) (.int .i8 0) (-1) .nilIface 1 0 0) 152
 R : Blk w' (w.heap.size + 2) (rdA (w.heap.size + 3) RD 0 0 .nilIface (-1) (-1)) 297
 RB : Blk w' (w.heap.size + 3) (madeCells #[.int .u8 0] 4096) 5
 old : Old w w'
 size : w'.heap.size = w.heap.size + 4
theorem newDecoder_do (RD : Nat) (w : World) : Calls Tryz.prog 65 #[.iface 77 (.pointer (some ⟨RD, 0, none⟩))] w fun e w' => e = .returned (.pointer (some ⟨w.heap.size + 1, 0, none⟩)) /\ Made w RD w' := by
 have t1 := ta_77_142
 have t2 := ta_77_259
 have hmm := run_makeMap98
 have hmk := mk4096
 have hmax : max (4096 : Int) 16 = 4096 := by decide
 go_enter Tryz.func65, Tryz.ntmps65
 go_wp2
 go_end0
 simp only []
 go_wp2
 go_end0
 simp only []
 go_wp2
 go_ret
 refine ⟨rfl, ?_⟩
 have s1 : (w.alloc (.map #[] 0)).heap.size = w.heap.size + 1 := by simp
 have m0 : (w.alloc (.map #[] 0)).heap[w.heap.size]? = some (.map #[] 0) := Go.heap_alloc_new w _
 refine ⟨?_, fun ep B => ?_, ?_, ?_, ?_, ?_⟩
 ·rw [Below.heap_alloc _ _ _ (by simp; omega), Below.heap_alloc _ _ _ (by simp; omega), Below.heap_alloc _ _ _ (by simp)]
  exact m0
 ·have := Blk.new (w.alloc (.map #[] 0)) (decA (dx0 B w.heap.size RD ep) pa0 (.slice none 0 0) (.int .i8 0) (-1) .nilIface 1 0 0) 152
  rw [s1] at this
  exact (this.alloc _).alloc _
 ·have := Blk.new ((w.alloc (.map #[] 0)).alloc (.cells (decA (dx0 0 w.heap.size RD ⟨0, 0, none⟩) pa0 (.slice none 0 0) (.int .i8 0) (-1) .nilIface 1 0 0) 152)) (rdA (w.heap.size + 3) RD 0 0 .nilIface (-1) (-1)) 297
  rw [show ((w.alloc (.map #[] 0)).alloc (.cells (decA (dx0 0 w.heap.size RD ⟨0, 0, none⟩) pa0 (.slice none 0 0) (.int .i8 0) (-1) .nilIface 1 0 0) 152)).heap.size = w.heap.size + 2 by simp] at this
  exact this.alloc _
 ·have := Blk.new (((w.alloc (.map #[] 0)).alloc (.cells (decA (dx0 0 w.heap.size RD ⟨0, 0, none⟩) pa0 (.slice none 0 0) (.int .i8 0) (-1) .nilIface 1 0 0) 152)).alloc (.cells (rdA (w.heap.size + 3) RD 0 0 .nilIface (-1) (-1)) 297)) (madeCells #[.int .u8 0] 4096) 5
  rw [show (((w.alloc (.map #[] 0)).alloc (.cells (decA (dx0 0 w.heap.size RD ⟨0, 0, none⟩) pa0 (.slice none 0 0) (.int .i8 0) (-1) .nilIface 1 0 0) 152)).alloc (.cells (rdA (w.heap.size + 3) RD 0 0 .nilIface (-1) (-1)) 297)).heap.size = w.heap.size + 3 by simp] at this
  exact this
 ·exact ((((Fr.refl _ w).alloc _).alloc _).alloc _).alloc _
 ·simp
def opt0 : Array Value := #[.bool false, .bool false, .slice none 0 0, .slice none 0 0, .string ⟨#[]⟩]
theorem decoder_do (RD B : Nat) (ep : Addr) (s : List UInt8) (items : List Item) (w : World) (hs : s.length <= 549755813888) (hi : srcI items = s) (hdoc : docOk [] items) (hRD : Blk w RD (rdrA ⟨s.toArray⟩) 79) (hG : w.cell? ⟨0, 0, none⟩ = some (.iface 192 (.pointer (some ep)))) (hU : UT w) (h5 : 5 <= B) (hB : B <= RD) :
  Calls Tryz.prog 36 #[.iface 77 (.pointer (some ⟨RD, 0, none⟩)), .agg opt0] w fun e w' => ∃ E v, E.et = 192 /\ E.eof = .iface 192 (.pointer (some ep)) /\ E.B = B /\ e = .returned (.pointer (some ⟨E.D, 0, none⟩)) /\ Old w w' /\ DSt E w' v [] none items /\ (∀ x, E.own v x -> x = RD \/ w.heap.size <= x) := by
 have hold : Old w (w.alloc (.cells opt0 41)) := (Fr.refl _ w).alloc _
 have hO := Blk.new w opt0 41
 have hnd := (newDecoder_do RD (w.alloc (.cells opt0 41))).mono (R' := fun e w' => e = .returned (.pointer (some ⟨w.heap.size + 2, 0, none⟩)) /\ w'.cell? ⟨w.heap.size, 1, none⟩ = some (.bool false) /\ w'.cell? ⟨w.heap.size, 2, none⟩ = some (.slice none 0 0) /\ w'.cell? ⟨w.heap.size, 3, none⟩ = some (.slice none 0 0) /\ w'.cell? ⟨w.heap.size, 4, none⟩ = some (.string ⟨#[]⟩) /\
   w'.cell? ⟨w.heap.size + 2, 0, none⟩ = some (.bool true) /\ w'.cell? ⟨w.heap.size + 2, 1, none⟩ = some (.slice none 0 0) /\ w'.cell? ⟨w.heap.size + 2, 4, none⟩ = some (.string ⟨#[]⟩) /\ w'.frozen? ⟨w.heap.size + 2, 0, none⟩ = false /\ w'.frozen? ⟨w.heap.size + 2, 1, none⟩ = false /\ w'.frozen? ⟨w.heap.size + 2, 4, none⟩ = false /\ Hid (Made (w.alloc (.cells opt0 41)) RD w')) (by
  rintro e w' ⟨rfl, h⟩
  have e1 : (w.alloc (.cells opt0 41)).heap.size + 1 = w.heap.size + 2 := by simp
  have hO' := hO.keep h.old (fun h => h)
  have hD := h.D ⟨0, 0, none⟩ 0
  rw [e1] at hD
  refine ⟨by rw [e1], by rw [hO'.cell]; rfl, by rw [hO'.cell]; rfl, by rw [hO'.cell]; rfl, by rw [hO'.cell]; rfl, by rw [hD.cell]; rfl, by rw [hD.cell]; rfl, by rw [hD.cell]; rfl, hD.fz _, hD.fz _, hD.fz _, h⟩)
 have hne : w.heap.size ≠ w.heap.size + 2 := by omega
 have hne' : w.heap.size + 2 ≠ w.heap.size := by omega
 clear hO
 generalize hSZ : w.heap.size = SZ at *
 generalize hDD : SZ + 2 = DD at *
 unfold opt0 at *
 replace hSZ := zz hSZ
 replace hDD := zz hDD
 replace hRD := zz hRD
 replace hG := zz hG
 replace hU := zz hU
 replace hold := zz hold
 replace hi := zz hi
 replace hs := zz hs
 replace hdoc := zz hdoc
 go_enter Tryz.func36, Tryz.ntmps36
 go_wp2_with (go_at_call 65; refine hnd.mono ?_; rintro e w1 ⟨rfl, o1, o2, o3, o4, d0, d1, d4, f0, f1, f4, k1⟩)
 rw [hSZ.out]
 go_region
 go_wp2
 refine wp_loop_rounds 1 ?_
 rw [rounds_succ]
 go_wp2
 go_ret
 have K := k1.out
 have hz := hSZ.out
 have hdd := hDD.out
 have sz0 : (w.alloc (.cells #[.bool false, .bool false, .slice none 0 0, .slice none 0 0, .string ⟨#[]⟩] 41)).heap.size = SZ + 1 := by simp [hz]
 obtain ⟨K1, K2, K3, K4, K5, K6⟩ := K
 rw [sz0] at K1 K3 K4 K6
 have K2' := K2 ep B
 rw [sz0] at K2'
 have eDD : SZ + 1 + 1 = DD := by omega
 have eR : SZ + 1 + 2 = SZ + 3 := by omega
 rw [eDD] at K2'
 have hO1 : Old w w1 := hold.out.old K5
 have f1' : Fr (fun x => x = DD) w1 (((w1.setCell ⟨DD, 0, none⟩ (.bool true)).setCell ⟨DD, 1, none⟩ (.slice none 0 0)).setCell ⟨DD, 4, none⟩ (.string ⟨#[]⟩)).drew := ((((Fr.refl (fun x => x = DD) w1).set (Or.inl rfl) _ _).set (Or.inl rfl) _ _).set (Or.inl rfl) _ _).drew
 generalize hW : (((w1.setCell ⟨DD, 0, none⟩ (.bool true)).setCell ⟨DD, 1, none⟩ (.slice none 0 0)).setCell ⟨DD, 4, none⟩ (.string ⟨#[]⟩)).drew = W at *
 have hD : Blk W DD (decA (dx0 B (SZ + 1) RD ep) pa0 (.slice none 0 0) (.int .i8 0) (-1) .nilIface 1 0 0) 152 := by
  have h1 := K2'.set 0 (.bool true)
  rw [set_same rfl] at h1
  have h2 := h1.set 1 (.slice none 0 0)
  rw [set_same rfl] at h2
  have h3 := h2.set 4 (.string ⟨#[]⟩)
  rw [set_same rfl] at h3
  rw [<- hW]
  exact h3
 have hRDw := hRD.out.lt
 have hOW : Old w W := ⟨f1'.os.trans hO1.os, f1'.tape.trans hO1.tape, f1'.output.trans hO1.output, Nat.le_trans hO1.size f1'.size, fun k hk _ => (f1'.block k (Nat.lt_of_lt_of_le hk hO1.size) (fun e => by omega)).trans (hO1.block k hk (fun h => h))⟩
 have hRr : Blk W (SZ + 3) (rdA (SZ + 4) RD 0 0 .nilIface (-1) (-1)) 297 := by
  have h := Blk.keep (w := w1) K3 f1' (fun e => by omega)
  exact h
 have hRBr : Blk W (SZ + 4) (madeCells #[.int .u8 0] 4096) 5 := Blk.keep (w := w1) K4 f1' (fun e => by omega)
 have hRDr : Blk W RD (rdrA ⟨s.toArray⟩) 79 := hRD.out.keep hOW (fun h => h)
 have hm : W.heap[SZ + 1]? = some (.map #[] 0) := f1'.heap (fun e => by omega) K1
 have hWs : W.heap.size = SZ + 5 := by
  have := f1'.size
  rw [<- hW]
  simp [World.setCell, World.drew]
  omega
 have hSrc : Src W (SZ + 3) (SZ + 4) RD s := ⟨⟨0, 0, -1, -1, _, [], ⟨s.toArray⟩, hRr, hRDr, hRBr, by simp [madeCells, Builtin.zeroCells], rfl, by omega, fun i h => absurd h (by simp), by simp, by rw [Lib.size_eq]; have := hs.out; simp; omega⟩, by omega, by omega, by omega⟩
 have hDec : Dec (dx0 B (SZ + 1) RD ep) W pa0 (.slice none 0 0) [] true false s := by
  refine ⟨⟨.int .i8 0, -1, 1, 0, 0, s, ?_, hSrc, Or.inl ⟨rfl, rfl⟩⟩, fun h => absurd h (by decide), Or.inl ⟨rfl, rfl⟩, hOW.cell hG.out, hU.out.fr hOW (fun h => h) (fun h => h), ?_, ?_, fun k hk => by simp [Value.ownBlock] at hk⟩
  ·have : (dx0 B (SZ + 1) RD ep).D = DD := by show SZ + 1 + 1 = DD; omega
   rw [this]; exact hD
  ·refine ⟨h5, ?_, ?_, ?_, hB⟩ <;> simp only [dx0] <;> omega
  ·refine ⟨?_, ?_, ?_⟩ <;> simp only [dx0] <;> omega
 have hown : ∀ x, (dx0 B (SZ + 1) RD ep).own (.slice none 0 0) x -> x = RD \/ SZ + 2 <= x := by
  rintro x ((h | h | h | h) | h)
  ·right; rw [h]; simp only [dx0]; omega
  ·right; rw [h]; simp only [dx0]; omega
  ·left; exact h
  ·right; rw [h]; simp only [dx0]; omega
  ·simp [Value.ownBlock] at h
 refine ⟨dx0 B (SZ + 1) RD ep, .slice none 0 0, rfl, rfl, rfl, ?_, hOW, ⟨pa0, [], [], false, by rw [hi.out]; exact hDec, fun h => absurd h (by decide), hdoc.out, ?_, rfl, ⟨⟨[], [], [], rfl, rfl, rfl⟩, List.nodup_nil, (fun x hx => by cases hx), rfl, SZ + 1, 0, rfl, hm, ⟨by omega, by omega, fun h => ?_⟩, by simp⟩⟩, fun x hx => (hown x hx).imp id (fun h => by omega)⟩
 ·show _ = Ending.returned (.pointer (some ⟨SZ + 1 + 1, 0, none⟩))
  rw [eDD]; rfl
 ·rw [hi.out]; have := hs.out; simp; omega
 ·rcases hown _ h with h | h <;> omega
end
section
open Go.RowKit
theorem inOff_do {E : Dx} {w : World} {p : Pa} {v : Value} {bs strm : List UInt8} {nb0 eo : Bool} (h : Dec E w p v bs nb0 eo strm) : Calls Tryz.prog 73 #[.pointer (some ⟨E.D, 0, none⟩)] w fun e w' => ∃ o : Int, e = .returned (.int .i64 o) /\ w' = w := by
 obtain ⟨x9, n, line, ls, off, rest, aD, _⟩ := h.ex
 have c23 := aD.cell 23
 simp [decA] at c23
 clear aD h
 go_enter Tryz.func73, Tryz.ntmps73
 go_wp2
 go_ret
 exact ⟨_, rfl, rfl⟩
theorem inPos_do {E : Dx} {w : World} {p : Pa} {v : Value} {bs strm : List UInt8} {nb0 eo : Bool} (h : Dec E w p v bs nb0 eo strm) : Calls Tryz.prog 74 #[.pointer (some ⟨E.D, 0, none⟩)] w fun e w' => ∃ l c : Int, e = .returned (.tuple #[.int .i64 l, .int .i64 c]) /\ ∃ k, w' = w.drewN k := by
 obtain ⟨x9, n, line, ls, off, rest, aD, _⟩ := h.ex
 have c23 := aD.cell 23
 have c22 := aD.cell 22
 have c21 := aD.cell 21
 simp [decA] at c23 c22 c21
 clear aD h
 go_enter Tryz.func74, Tryz.ntmps74
 go_wp2
 go_quiet (fail)
 go_wp2
 go_ret2
 exact ⟨_, _, rfl, _, rfl⟩
def itZ : Array Value := #[.int .i64 0, .string ⟨#[]⟩, .string ⟨#[]⟩, .slice none 0 0, .string ⟨#[]⟩, .int .i64 0, .int .i64 0, .int .i64 0]
theorem itok_world (w W : World) (k : Nat) (o l c : Int) (hW : W = (((((w.alloc (.cells #[.int .i64 0, .string ⟨#[]⟩, .string ⟨#[]⟩, .slice none 0 0, .string ⟨#[]⟩, .int .i64 0, .int .i64 0, .int .i64 0] 64)).alloc (.cells #[.int .i64 0, .string ⟨#[]⟩, .string ⟨#[]⟩, .slice none 0 0, .string ⟨#[]⟩, .int .i64 o, .int .i64 0, .int .i64 0] 64)).drewN k).setCell ⟨w.heap.size + 1, 6, none⟩ (.int .i64 l)).setCell ⟨w.heap.size + 1, 7, none⟩ (.int .i64 c))) :
  Old w W /\ Blk W w.heap.size itZ 64 /\ Blk W (w.heap.size + 1) #[.int .i64 0, .string ⟨#[]⟩, .string ⟨#[]⟩, .slice none 0 0, .string ⟨#[]⟩, .int .i64 o, .int .i64 l, .int .i64 c] 64 /\ W.heap.size = w.heap.size + 2 := by
 have hs : (w.alloc (.cells itZ 64)).heap.size = w.heap.size + 1 := by simp
 have b1 : Blk (w.alloc (.cells itZ 64)) w.heap.size itZ 64 := Blk.new w _ _
 have b2 := Blk.new (w.alloc (.cells itZ 64)) #[.int .i64 0, .string ⟨#[]⟩, .string ⟨#[]⟩, .slice none 0 0, .string ⟨#[]⟩, .int .i64 o, .int .i64 0, .int .i64 0] 64
 rw [hs] at b2
 subst hW
 refine ⟨?_, ?_, ?_, ?_⟩
 ·exact (((((Fr.refl _ w).alloc _).alloc _).drewN k).set (Or.inr (Nat.le_succ _)) _ _).set (Or.inr (Nat.le_succ _)) _ _
 ·exact Blk.set_ne (Blk.set_ne (w := ((w.alloc (.cells itZ 64)).alloc _).drewN k) (b1.alloc _) (by simp) _) (by simp) _
 ·exact Blk.set (Blk.set (w := ((w.alloc (.cells itZ 64)).alloc _).drewN k) b2 6 (.int .i64 l)) 7 (.int .i64 c)
 ·simp [World.setCell, World.drewN]
theorem Blk.drew {w : World} {b : Nat} {cs : Array Value} {T : TypeId} (h : Blk w b cs T) : Blk w.drew b cs T := h
theorem blk8 (W : World) (T4 : Nat) (h : Blk W T4 itZ 64) (a0 a1 a2 a3 a4 a5 a6 a7 : Value) : Blk ((((((((W.setCell ⟨T4, 0, none⟩ a0).setCell ⟨T4, 1, none⟩ a1).setCell ⟨T4, 2, none⟩ a2).setCell ⟨T4, 3, none⟩ a3).setCell ⟨T4, 4, none⟩ a4).setCell ⟨T4, 5, none⟩ a5).setCell ⟨T4, 6, none⟩ a6).setCell ⟨T4, 7, none⟩ a7).drew T4 #[a0, a1, a2, a3, a4, a5, a6, a7] 64 := by
 have h8 := ((((((((h.set 0 a0).set 1 a1).set 2 a2).set 3 a3).set 4 a4).set 5 a5).set 6 a6).set 7 a7)
 simp only [itZ, List.setIfInBounds_toArray, List.set_cons_zero, List.set_cons_succ] at h8
 exact h8.drew
theorem old8 {w : World} (W : World) (T4 : Nat) (hT : w.heap.size <= T4) (h : Old w W) (a0 a1 a2 a3 a4 a5 a6 a7 : Value) : Old w ((((((((W.setCell ⟨T4, 0, none⟩ a0).setCell ⟨T4, 1, none⟩ a1).setCell ⟨T4, 2, none⟩ a2).setCell ⟨T4, 3, none⟩ a3).setCell ⟨T4, 4, none⟩ a4).setCell ⟨T4, 5, none⟩ a5).setCell ⟨T4, 6, none⟩ a6).setCell ⟨T4, 7, none⟩ a7).drew := ((((((((h.set (Or.inr hT) _ _).set (Or.inr hT) _ _).set (Or.inr hT) _ _).set (Or.inr hT) _ _).set (Or.inr hT) _ _).set (Or.inr hT) _ _).set (Or.inr hT) _ _).set (Or.inr hT) _ _).drew
end
section
open Go.RowKit
theorem ta_113_108' (x : Value) (w : World) : (Instr.typeAssert (.iface 113 x) 65 108 true).run Tryz.prog w = .ok (.tuple #[z108, .bool false]) w := by kernel_rfl
theorem ta_113_112' (x : Value) (w : World) : (Instr.typeAssert (.iface 113 x) 65 112 true).run Tryz.prog w = .ok (.tuple #[z112, .bool false]) w := by kernel_rfl
theorem ta_113_113' (x : Value) (w : World) : (Instr.typeAssert (.iface 113 x) 65 113 true).run Tryz.prog w = .ok (.tuple #[x, .bool true]) w := by kernel_rfl
theorem itok_text (E : Dx) (p : Pa) (v : Value) (bs strm : List UInt8) (nb0 eo : Bool) (g cap n : Nat) (d : List UInt8) (w : World) (hn : n = d.length) (hl : Lies w g 0 d) (h : Dec E w p v bs nb0 eo strm) :
  Calls Tryz.prog 39 #[.iface 113 (.slice (some ⟨g, 0, none⟩) n cap), .pointer (some ⟨E.D, 0, none⟩)] w fun e w' => ∃ o l c : Int, e = .returned (.agg #[.int .i64 3, .string ⟨#[]⟩, .string ⟨#[]⟩, .slice none 0 0, .string ⟨d.toArray⟩, .int .i64 o, .int .i64 l, .int .i64 c]) /\ Old w w' := by
 have ta108 := ta_113_108'
 have ta112 := ta_113_112'
 have ta113 := ta_113_113'
 have hcv : ∀ w', Old w w' -> (convert 113 9 (.slice (some ⟨g, 0, none⟩) n cap)).run Tryz.prog w' = .ok (.string ⟨d.toArray⟩) w' := fun w' ho => by
  have hl' := hl.old ho
  subst hn
  refine run_convert_bytes_back w' 113 9 5 ⟨g, 0, none⟩ cap d Tryz.underlying113 Tryz.underlying5 Tryz.underlying9 ?_
  intro j hj
  rw [Lib.addr_add]
  exact hl' j _ (List.getElem?_eq_getElem hj)
 replace hcv := zz hcv
 have h1 := fun w' (ho : Old w w') => inOff_do (h.old ho)
 have h2 := fun w' (ho : Old w w') => inPos_do (h.old ho)
 replace h1 := zz h1
 replace h2 := zz h2
 clear h hl hn
 go_enter Tryz.func39, Tryz.ntmps39
 go_upto_region 3 with (first | (go_at_call 73; refine (h1.out _ ((Fr.refl _ w).alloc _)).mono ?_; rintro e w1 ⟨o, rfl, rfl⟩) | (go_at_call 74; refine (h2.out _ (((Fr.refl _ w).alloc _).alloc _)).mono ?_; rintro e w1 ⟨l, c, rfl, k, rfl⟩))
 obtain ⟨W, hW⟩ : ∃ W, W = (((((w.alloc (.cells #[.int .i64 0, .string ⟨#[]⟩, .string ⟨#[]⟩, .slice none 0 0, .string ⟨#[]⟩, .int .i64 0, .int .i64 0, .int .i64 0] 64)).alloc (.cells #[.int .i64 0, .string ⟨#[]⟩, .string ⟨#[]⟩, .slice none 0 0, .string ⟨#[]⟩, .int .i64 o, .int .i64 0, .int .i64 0] 64)).drewN k).setCell ⟨w.heap.size + 1, 6, none⟩ (.int .i64 l)).setCell ⟨w.heap.size + 1, 7, none⟩ (.int .i64 c)) := ⟨_, rfl⟩
 rw [<- hW]
 obtain ⟨hO, hB4, hB5, hsz⟩ := itok_world w W k o l c hW
 generalize hT4 : w.heap.size = T4 at *
 generalize hT5 : T4 + 1 = T5 at *
 have hne45 : T4 ≠ T5 := by omega
 have hne54 : T5 ≠ T4 := by omega
 have hT5W : T5 < W.heap.size := by omega
 clear hW h1 h2 hsz
 replace hT4 := zz hT4
 replace hT5 := zz hT5
 have c0 := hB5.cell 0
 have c1 := hB5.cell 1
 have c2 := hB5.cell 2
 have c3 := hB5.cell 3
 have c4 := hB5.cell 4
 have c5 := hB5.cell 5
 have c6 := hB5.cell 6
 have c7 := hB5.cell 7
 simp at c0 c1 c2 c3 c4 c5 c6 c7
 have z0 := hB4.cell 0
 have z1 := hB4.cell 1
 have z2 := hB4.cell 2
 have z3 := hB4.cell 3
 have z4 := hB4.cell 4
 have z5 := hB4.cell 5
 have z6 := hB4.cell 6
 have z7 := hB4.cell 7
 simp [itZ] at z0 z1 z2 z3 z4 z5 z6 z7
 have f0 := hB5.fz 0
 have f1 := hB5.fz 1
 have f2 := hB5.fz 2
 have f3 := hB5.fz 3
 have f4 := hB5.fz 4
 have y0 := hB4.fz 0
 have y1 := hB4.fz 1
 have y2 := hB4.fz 2
 have y3 := hB4.fz 3
 have y4 := hB4.fz 4
 have y5 := hB4.fz 5
 have y6 := hB4.fz 6
 have y7 := hB4.fz 7
 have hcW := hcv.out W hO
 have hcW1 := hcv.out W.drew hO.drew
 have hcW2 := hcv.out ((W.setCell ⟨T5, 0, none⟩ (.int .i64 3)).drew) (hO.set (Or.inr (by have := hT4.out; have := hT5.out; omega)) _ _).drew
 replace hB5 := zz hB5
 replace hB4 := zz hB4
 replace hO := zz hO
 clear hcv
 go_wp2
 go_region
 go_wp2
 have hT5' : w.heap.size <= T5 := by have := hT4.out; have := hT5.out; omega
 have hE := blk8 ((W.setCell ⟨T5, 0, none⟩ (.int .i64 3)).setCell ⟨T5, 4, none⟩ (.string ⟨d.toArray⟩)) T4 ((hB4.out.set_ne (p := ⟨T5, 0, none⟩) hne45 _).set_ne (p := ⟨T5, 4, none⟩) hne45 _) (.int .i64 3) (.string ⟨#[]⟩) (.string ⟨#[]⟩) (.slice none 0 0) (.string ⟨d.toArray⟩) (.int .i64 o) (.int .i64 l) (.int .i64 c)
 have hO8 := old8 (w := w) ((W.setCell ⟨T5, 0, none⟩ (.int .i64 3)).setCell ⟨T5, 4, none⟩ (.string ⟨d.toArray⟩)) T4 (by have := hT4.out; omega) ((hO.out.set (Or.inr hT5') _ _).set (Or.inr hT5') _ _) (.int .i64 3) (.string ⟨#[]⟩) (.string ⟨#[]⟩) (.slice none 0 0) (.string ⟨d.toArray⟩) (.int .i64 o) (.int .i64 l) (.int .i64 c)
 refine bodyPost_ret (results_cell_row rfl _ _ T4 64 _ (0, 0) _ rfl hE Tryz.underlying64 rfl (by kernel_rfl)) rfl ?_
 exact ⟨o, l, c, rfl, hO8⟩
end
section
open Go.RowKit
theorem ta_114_108' (x : Value) (w : World) : (Instr.typeAssert (.iface 114 x) 65 108 true).run Tryz.prog w = .ok (.tuple #[z108, .bool false]) w := by kernel_rfl
theorem ta_114_112' (x : Value) (w : World) : (Instr.typeAssert (.iface 114 x) 65 112 true).run Tryz.prog w = .ok (.tuple #[z112, .bool false]) w := by kernel_rfl
theorem ta_114_113' (x : Value) (w : World) : (Instr.typeAssert (.iface 114 x) 65 113 true).run Tryz.prog w = .ok (.tuple #[.slice none 0 0, .bool false]) w := by kernel_rfl
theorem ta_114_114' (x : Value) (w : World) : (Instr.typeAssert (.iface 114 x) 65 114 true).run Tryz.prog w = .ok (.tuple #[x, .bool true]) w := by kernel_rfl
theorem itok_cm (E : Dx) (p : Pa) (v : Value) (bs strm : List UInt8) (nb0 eo : Bool) (g cap n : Nat) (d : List UInt8) (w : World) (hn : n = d.length) (hl : Lies w g 0 d) (h : Dec E w p v bs nb0 eo strm) :
  Calls Tryz.prog 39 #[.iface 114 (.slice (some ⟨g, 0, none⟩) n cap), .pointer (some ⟨E.D, 0, none⟩)] w fun e w' => ∃ o l c : Int, e = .returned (.agg #[.int .i64 4, .string ⟨#[]⟩, .string ⟨#[]⟩, .slice none 0 0, .string ⟨d.toArray⟩, .int .i64 o, .int .i64 l, .int .i64 c]) /\ Old w w' := by
 have ta108 := ta_114_108'
 have ta112 := ta_114_112'
 have ta113 := ta_114_113'
 have ta114 := ta_114_114'
 have hcv : ∀ w', Old w w' -> (convert 114 9 (.slice (some ⟨g, 0, none⟩) n cap)).run Tryz.prog w' = .ok (.string ⟨d.toArray⟩) w' := fun w' ho => by
  have hl' := hl.old ho
  subst hn
  refine run_convert_bytes_back w' 114 9 5 ⟨g, 0, none⟩ cap d Tryz.underlying114 Tryz.underlying5 Tryz.underlying9 ?_
  intro j hj
  rw [Lib.addr_add]
  exact hl' j _ (List.getElem?_eq_getElem hj)
 replace hcv := zz hcv
 have h1 := fun w' (ho : Old w w') => inOff_do (h.old ho)
 have h2 := fun w' (ho : Old w w') => inPos_do (h.old ho)
 replace h1 := zz h1
 replace h2 := zz h2
 clear h hl hn
 go_enter Tryz.func39, Tryz.ntmps39
 go_upto_region 3 with (first | (go_at_call 73; refine (h1.out _ ((Fr.refl _ w).alloc _)).mono ?_; rintro e w1 ⟨o, rfl, rfl⟩) | (go_at_call 74; refine (h2.out _ (((Fr.refl _ w).alloc _).alloc _)).mono ?_; rintro e w1 ⟨l, c, rfl, k, rfl⟩))
 obtain ⟨W, hW⟩ : ∃ W, W = (((((w.alloc (.cells #[.int .i64 0, .string ⟨#[]⟩, .string ⟨#[]⟩, .slice none 0 0, .string ⟨#[]⟩, .int .i64 0, .int .i64 0, .int .i64 0] 64)).alloc (.cells #[.int .i64 0, .string ⟨#[]⟩, .string ⟨#[]⟩, .slice none 0 0, .string ⟨#[]⟩, .int .i64 o, .int .i64 0, .int .i64 0] 64)).drewN k).setCell ⟨w.heap.size + 1, 6, none⟩ (.int .i64 l)).setCell ⟨w.heap.size + 1, 7, none⟩ (.int .i64 c)) := ⟨_, rfl⟩
 rw [<- hW]
 obtain ⟨hO, hB4, hB5, hsz⟩ := itok_world w W k o l c hW
 generalize hT4 : w.heap.size = T4 at *
 generalize hT5 : T4 + 1 = T5 at *
 have hne45 : T4 ≠ T5 := by omega
 have hne54 : T5 ≠ T4 := by omega
 have hT5W : T5 < W.heap.size := by omega
 clear hW h1 h2 hsz
 replace hT4 := zz hT4
 replace hT5 := zz hT5
 have c0 := hB5.cell 0
 have c1 := hB5.cell 1
 have c2 := hB5.cell 2
 have c3 := hB5.cell 3
 have c4 := hB5.cell 4
 have c5 := hB5.cell 5
 have c6 := hB5.cell 6
 have c7 := hB5.cell 7
 simp at c0 c1 c2 c3 c4 c5 c6 c7
 have z0 := hB4.cell 0
 have z1 := hB4.cell 1
 have z2 := hB4.cell 2
 have z3 := hB4.cell 3
 have z4 := hB4.cell 4
 have z5 := hB4.cell 5
 have z6 := hB4.cell 6
 have z7 := hB4.cell 7
 simp [itZ] at z0 z1 z2 z3 z4 z5 z6 z7
 have f0 := hB5.fz 0
 have f1 := hB5.fz 1
 have f2 := hB5.fz 2
 have f3 := hB5.fz 3
 have f4 := hB5.fz 4
 have y0 := hB4.fz 0
 have y1 := hB4.fz 1
 have y2 := hB4.fz 2
 have y3 := hB4.fz 3
 have y4 := hB4.fz 4
 have y5 := hB4.fz 5
 have y6 := hB4.fz 6
 have y7 := hB4.fz 7
 have hcW := hcv.out W hO
 have hcW1 := hcv.out W.drew hO.drew
 have hcW2 := hcv.out ((W.setCell ⟨T5, 0, none⟩ (.int .i64 4)).drew) (hO.set (Or.inr (by have := hT4.out; have := hT5.out; omega)) _ _).drew
 replace hB5 := zz hB5
 replace hB4 := zz hB4
 replace hO := zz hO
 clear hcv
 go_wp2
 go_region
 go_wp2
 have hT5' : w.heap.size <= T5 := by have := hT4.out; have := hT5.out; omega
 have hE := blk8 ((W.setCell ⟨T5, 0, none⟩ (.int .i64 4)).setCell ⟨T5, 4, none⟩ (.string ⟨d.toArray⟩)) T4 ((hB4.out.set_ne (p := ⟨T5, 0, none⟩) hne45 _).set_ne (p := ⟨T5, 4, none⟩) hne45 _) (.int .i64 4) (.string ⟨#[]⟩) (.string ⟨#[]⟩) (.slice none 0 0) (.string ⟨d.toArray⟩) (.int .i64 o) (.int .i64 l) (.int .i64 c)
 have hO8 := old8 (w := w) ((W.setCell ⟨T5, 0, none⟩ (.int .i64 4)).setCell ⟨T5, 4, none⟩ (.string ⟨d.toArray⟩)) T4 (by have := hT4.out; omega) ((hO.out.set (Or.inr hT5') _ _).set (Or.inr hT5') _ _) (.int .i64 4) (.string ⟨#[]⟩) (.string ⟨#[]⟩) (.slice none 0 0) (.string ⟨d.toArray⟩) (.int .i64 o) (.int .i64 l) (.int .i64 c)
 refine bodyPost_ret (results_cell_row rfl _ _ T4 64 _ (0, 0) _ rfl hE Tryz.underlying64 rfl (by kernel_rfl)) rfl ?_
 exact ⟨o, l, c, rfl, hO8⟩
end
end Go.Proofs.YtepbbahdhhjibaaGreatDoor
