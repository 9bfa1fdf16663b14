/- own text -/
import Derived.Test.YtepbbahdhhjibaaGreatDoorC20
import Derived.Test.YtepbbahdhhjibaaGreatDoorC29
namespace Go.Proofs.YtepbbahdhhjibaaGreatDoor
set_option linter.unusedSimpArgs false
set_option linter.unusedVariables false
set_option maxHeartbeats 4000000
set_option maxRecDepth 100000
section
open Go.RowKit
theorem ta_55_96 (x : Value) (w : World) : (Instr.typeAssert (.iface 55 x) 95 96 true).run Tryz.prog w = .ok (.tuple #[.pointer none, .bool false]) w := by kernel_rfl
theorem getM {w w' : World} {b : Nat} {o : Obj} (f : Old w w') (h : w.heap[b]? = some o) : w'.heap[b]? = some o := f.heap (fun h => h) h
theorem newEnc_do (WB : Nat) (w : World) (hW : Blk w WB #[.slice none 0 0] 58) : Calls Tryz.prog 29 #[.iface 55 (.pointer (some ⟨WB, 0, none⟩))] w fun e w' => ∃ X : Px, e = .returned (.pointer (some ⟨X.P, 0, none⟩)) /\ X.E.W = WB /\ Old w w' /\ (∃ v, Pr X w' v false [] [] /\ ∀ x, X.own v x -> x = WB \/ w.heap.size <= x) := by
 have t1 := ta_55_96
 have hmk := mk4096
 have hWl := hW.lt
 replace hW := zz hW
 go_enter Tryz.func29, Tryz.ntmps29
 go_wp2
 go_ret
 obtain ⟨W1, hW1⟩ : ∃ W1, W1 = w.alloc (.cells (madeCells #[.int .u8 0] 4096) 5) := ⟨_, rfl⟩
 have s1 : W1.heap.size = w.heap.size + 1 := by rw [hW1]; simp
 have b1 : Blk W1 w.heap.size (madeCells #[.int .u8 0] 4096) 5 := by rw [hW1]; exact Blk.new w _ _
 have o1 : Old w W1 := by rw [hW1]; exact (Fr.refl _ w).alloc _
 rw [<- hW1]
 have b2 := Blk.new W1 #[.nilIface, .slice (some ⟨w.heap.size, 0, none⟩) 4096 4096, .int .i64 0, .iface 55 (.pointer (some ⟨WB, 0, none⟩))] 196
 rw [s1] at b2
 obtain ⟨W2, hW2⟩ : ∃ W2, W2 = W1.alloc (.cells #[.nilIface, .slice (some ⟨w.heap.size, 0, none⟩) 4096 4096, .int .i64 0, .iface 55 (.pointer (some ⟨WB, 0, none⟩))] 196) := ⟨_, rfl⟩
 have s2 : W2.heap.size = w.heap.size + 2 := by rw [hW2]; simp; omega
 have o2 : Old W1 W2 := by rw [hW2]; exact (Fr.refl _ W1).alloc _
 rw [<- hW2] at b2
 have hh : ∀ c, W1.alloc c = W1.alloc c := fun _ => rfl
 rw [<- hW2]
 have b3 := Blk.new W2 (prA ⟨w.heap.size + 1 + 1, ⟨w.heap.size + 1, w.heap.size, WB⟩⟩ ⟨.slice none 0 0, .slice none 0 0, .slice none 0 0⟩ false) 103
 rw [s2] at b3
 have o3 : Old W2 (W2.alloc (.cells (prA ⟨w.heap.size + 1 + 1, ⟨w.heap.size + 1, w.heap.size, WB⟩⟩ ⟨.slice none 0 0, .slice none 0 0, .slice none 0 0⟩ false) 103)) := (Fr.refl _ W2).alloc _
 have hcel : (madeCells #[.int .u8 0] 4096).size = 4096 := by simp [madeCells]
 refine ⟨⟨w.heap.size + 1 + 1, ⟨w.heap.size + 1, w.heap.size, WB⟩⟩, rfl, rfl, (o1.old o2).old o3, ⟨.slice none 0 0, .slice none 0 0, .slice none 0 0⟩, ⟨b3, ⟨⟨[], [], _, rfl, by simp, ?_, ?_, hcel, rfl, ?_, World.ownsRow_nil _ _ _ _⟩, ⟨by simp, ?_, ?_⟩, fun k hk => by cases hk⟩, World.ownsRow_nil _ _ _ _, World.ownsRow_nil _ _ _ _, ?_, fun k hk => (by cases hk), fun k hk => (by cases hk)⟩, ?_⟩
 ·exact b2.keep o3 (fun h => h)
 ·exact (b1.keep o2 (fun h => h)).keep o3 (fun h => h)
 ·exact hW.out.keep ((o1.old o2).old o3) (fun h => h)
 ·simp; omega
 ·simp; omega
 ·rintro (h | h | h | h)
  ·simp at h
  ·have h' : w.heap.size + 1 + 1 = w.heap.size := h
   omega
  ·have h' : w.heap.size + 1 + 1 = WB := h
   omega
  ·cases h
 ·rintro x (h | (h | h | h | h) | h | h)
  ·simp at h; right; omega
  ·simp at h; right; omega
  ·simp at h; right; omega
  ·exact .inl h
  ·cases h
  ·cases h
  ·cases h
theorem eflush_do (X : Px) (v : Pv) (out : List UInt8) (tags : List ByteArray) (w : World) (h : Pr X w v false out tags) (hl : out.length <= 1099511627776) :
  Calls Tryz.prog 34 #[.pointer (some ⟨X.P, 0, none⟩)] w fun e w' => e = .returned .nilIface /\ ∃ va', PSt X w v w' ⟨va', v.pv, v.tv⟩ /\ Pr X w' ⟨va', v.pv, v.tv⟩ false out tags /\ w'.cell? ⟨X.E.B, 2, none⟩ = some (.int .i64 0) := by
 obtain ⟨c0, _, _, _, _, c12, c13, _⟩ := h.cells
 have hc := (flush_do X.E v.va out w h.W hl).mono (R' := fun e w1 => e = .returned .nilIface /\ Hid (∃ va', PSt X w v w1 ⟨va', v.pv, v.tv⟩ /\ Pr X w1 ⟨va', v.pv, v.tv⟩ false out tags /\ w1.cell? ⟨X.E.B, 2, none⟩ = some (.int .i64 0))) (by
  rintro e w1 ⟨rfl, va', s, k, k2⟩
  obtain ⟨h1, h2⟩ := h.step s k
  exact ⟨rfl, va', h2, h1, k2⟩)
 clear h
 go_enter Tryz.func34, Tryz.ntmps34
 go_wp2_with (go_at_call 63; refine hc.mono ?_; rintro e w1 ⟨rfl, k⟩)
 go_ret
 exact ⟨rfl, k.out⟩
theorem pclose_do (X : Px) (v : Pv) (out : List UInt8) (w : World) (h : Pr X w v false out []) (hl : out.length <= 1099511627776) :
  Calls Tryz.prog 64 #[.pointer (some ⟨X.P, 0, none⟩)] w fun e w' => e = .returned .nilIface /\ ∃ va', PSt X w v w' ⟨va', v.pv, v.tv⟩ /\ Wr X.E w' va' out /\ w'.cell? ⟨X.E.B, 2, none⟩ = some (.int .i64 0) := by
 have c0 : w.cell? ⟨X.P, 0, none⟩ = some (.pointer (some ⟨X.E.B, 0, none⟩)) := h.cells.1
 have c12 : w.cell? ⟨X.P, 12, none⟩ = some (.bool false) := by rw [h.D.cell]; rfl
 have f12 := h.D.fz 12
 obtain ⟨W1, hW1⟩ : ∃ W1, W1 = w.setCell ⟨X.P, 12, none⟩ (.bool true) := ⟨_, rfl⟩
 have f1 : Fr (fun x => x = X.P) w W1 := by rw [hW1]; exact (Fr.refl (fun x => x = X.P) w).set (Or.inl rfl) _ _
 have b1 : Blk W1 X.P (prA X v true) 103 := by rw [hW1]; exact h.D.set 12 (.bool true)
 have w1 : Wr X.E W1 v.va out := h.W.keep f1 (fun x hx e => h.nP (e ▸ hx))
 obtain ⟨pt, ct, hpt⟩ : ∃ pt ct, v.tv = .slice pt 0 ct := by
  rcases h.tg.2 with ⟨h1, _⟩ | ⟨g, cap, cur, h1, _⟩
  ·exact ⟨_, _, h1⟩
  ·exact ⟨_, _, h1⟩
 have hc := (flush_do X.E v.va out W1 w1 hl).mono (R' := fun e w2 => e = .returned .nilIface /\ w2.cell? ⟨X.P, 11, none⟩ = some (.slice pt 0 ct) /\ Hid (∃ va', PSt X w v w2 ⟨va', v.pv, v.tv⟩ /\ Wr X.E w2 va' out /\ w2.cell? ⟨X.E.B, 2, none⟩ = some (.int .i64 0))) (by
  rintro e w2 ⟨rfl, va', s, k, k2⟩
  have b2 := b1.keep s.fr h.nP
  refine ⟨rfl, by rw [b2.cell, <- hpt]; rfl, va', ⟨(f1.mono (fun x hx => .inl (.inl hx))).trans s.fr (fun x hx => .inl (.inr (.inl hx))), ?_⟩, k, k2⟩
  rintro x (hx | hx | hx | hx)
  ·exact .inl (.inl hx)
  ·exact (s.own x hx).imp (fun h => .inr (.inl h)) (fun h => Nat.le_trans f1.size h)
  ·exact .inl (.inr (.inr (.inl hx)))
  ·exact .inl (.inr (.inr (.inr hx))))
 have c0' : W1.cell? ⟨X.P, 0, none⟩ = some (.pointer (some ⟨X.E.B, 0, none⟩)) := by rw [b1.cell]; rfl
 subst hW1
 clear h b1 w1 f1 hpt
 go_enter Tryz.func64, Tryz.ntmps64
 go_wp2_with (go_at_call 63; refine hc.mono ?_; rintro e w1 ⟨rfl, k11, k⟩)
 go_ret
 exact ⟨rfl, k.out⟩
theorem eclose_do (X : Px) (v : Pv) (out : List UInt8) (w : World) (h : Pr X w v false out []) (hl : out.length <= 1099511627776) :
  Calls Tryz.prog 35 #[.pointer (some ⟨X.P, 0, none⟩)] w fun e w' => e = .returned .nilIface /\ ∃ va', PSt X w v w' ⟨va', v.pv, v.tv⟩ /\ Wr X.E w' va' out /\ w'.cell? ⟨X.E.B, 2, none⟩ = some (.int .i64 0) := by
 have hc := (pclose_do X v out w h hl).mono (R' := fun e w1 => e = .returned .nilIface /\ Hid (∃ va', PSt X w v w1 ⟨va', v.pv, v.tv⟩ /\ Wr X.E w1 va' out /\ w1.cell? ⟨X.E.B, 2, none⟩ = some (.int .i64 0))) (fun _ _ h => h)
 clear h
 go_enter Tryz.func35, Tryz.ntmps35
 go_wp2_with (go_at_call 64; refine hc.mono ?_; rintro e w1 ⟨rfl, k⟩)
 go_ret
 exact ⟨rfl, k.out⟩
end
section
open Go.RowKit
def GivenV (w : World) (base : Nat) (x : Value) : Tk -> Prop
 | .st nm kv => ∃ av, x = .iface 108 (.agg #[.string ⟨#[]⟩, .string (nameB nm), av]) /\ w.ownsRow 0 110 3 av kv.length (kvCells kv) /\ ∀ k, av.ownBlock = some k -> base <= k
 | .en nm => x = .iface 112 (.agg #[.string ⟨#[]⟩, .string (nameB nm)])
 | .tx rs => ∃ g n cap, x = .iface 113 (.slice (some ⟨g, 0, none⟩) n cap) /\ n = (nb rs).length /\ n <= cap /\ Lies w g 0 (nb rs) /\ base <= g /\ g < w.heap.size
 | .cm d => ∃ g n cap, x = .iface 114 (.slice (some ⟨g, 0, none⟩) n cap) /\ n = d.length /\ n <= cap /\ Lies w g 0 d /\ base <= g /\ g < w.heap.size
 | .pi nm d => ∃ g n cap, x = .iface 116 (.agg #[.string (nameB nm), .slice (some ⟨g, 0, none⟩) n cap]) /\ n = d.length /\ n <= cap /\ Lies w g 0 d /\ base <= g /\ g < w.heap.size
theorem kvCells_take {kv : List (List Nat × List Nat)} {i : Nat} (h : i < kv.length) : kvCells (kv.take (i + 1)) = kvCells (kv.take i) ++ [.string ⟨#[]⟩, .string (nameB kv[i].1), .string (nameB kv[i].2)] := by
 unfold kvCells; rw [List.take_succ_eq_append_getElem h, List.flatMap_append]; simp
theorem given_st (nm : ByteArray) (kv : List (List Nat × List Nat)) (av : Value) (o l c : Int) (w : World) (hrow : w.ownsRow 0 73 3 av kv.length (kvCells kv)) (hn : kv.length <= 1000000) :
  Calls Tryz.prog 31 #[.agg #[.int .i64 1, .string ⟨#[]⟩, .string nm, av, .string ⟨#[]⟩, .int .i64 o, .int .i64 l, .int .i64 c]] w fun e w' => ∃ ev, e = .returned (.tuple #[.iface 108 (.agg #[.string ⟨#[]⟩, .string nm, ev]), .bool true]) /\ Old w w' /\ w'.ownsRow 0 110 3 ev kv.length (kvCells kv) /\ ∀ k, ev.ownBlock = some k -> w.heap.size <= k := by
 obtain ⟨i0, hi0, hz0, hz1, hz2⟩ := info_parts info110
 obtain ⟨pa, na, ca, rfl⟩ : ∃ pa na ca, av = .slice pa na ca := by
  rcases hrow.2 with ⟨h1, _⟩ | ⟨g, cap, cur, h1, _⟩
  ·exact ⟨_, _, _, h1⟩
  ·exact ⟨_, _, _, h1⟩
 have hna : na = kv.length := by
  rcases hrow.2 with ⟨h1, h2⟩ | ⟨g, cap, cur, h1, _⟩
  ·injection h1 with _ h3 _; omega
  ·injection h1
 subst hna
 have hrowc : ∀ w', Old w w' -> ∀ i (h : i < kv.length), ∃ g nmi rsi, pa = some ⟨g, 0, none⟩ /\ w'.cell? ⟨g, i * 3, none⟩ = some (.string ⟨#[]⟩) /\ w'.cell? ⟨g, i * 3 + 1, none⟩ = some (.string nmi) /\ w'.cell? ⟨g, i * 3 + 2, none⟩ = some (.string rsi) /\ kvCells (kv.take (i + 1)) = kvCells (kv.take i) ++ [.string ⟨#[]⟩, .string nmi, .string rsi] := by
  intro w' ho i hi
  obtain ⟨g, cap, hv, _, hc⟩ := ownsRow_some hrow (by omega)
  obtain ⟨h1, h2, h3⟩ := kv_cells kv i hi
  exact ⟨g, _, _, by injection hv, ho.cell (hc _ _ h1), ho.cell (hc _ _ h2), ho.cell (hc _ _ h3), kvCells_take hi⟩
 replace hrowc := zz hrowc
 obtain ⟨T5, hT5⟩ : ∃ T5, T5 = w.heap.size + 1 + 1 := ⟨_, rfl⟩
 clear hrow
 go_enter Tryz.func31, Tryz.ntmps31
 go_wp2
 have h0 : Old w (((w.alloc (.cells #[.int .i64 1, .string ⟨#[]⟩, .string nm, .slice pa kv.length ca, .string ⟨#[]⟩, .int .i64 o, .int .i64 l, .int .i64 c] 64)).alloc (.cells #[.string ⟨#[]⟩, .string nm] 105)).alloc (.cells #[.string ⟨#[]⟩, .string nm, .slice none 0 0] 108)) := (((Fr.refl _ w).alloc _).alloc _).alloc _
 have hb0 := Blk.new ((w.alloc (.cells #[.int .i64 1, .string ⟨#[]⟩, .string nm, .slice pa kv.length ca, .string ⟨#[]⟩, .int .i64 o, .int .i64 l, .int .i64 c] 64)).alloc (.cells #[.string ⟨#[]⟩, .string nm] 105)) #[.string ⟨#[]⟩, .string nm, .slice none 0 0] 108
 rw [show ((w.alloc (.cells #[.int .i64 1, .string ⟨#[]⟩, .string nm, .slice pa kv.length ca, .string ⟨#[]⟩, .int .i64 o, .int .i64 l, .int .i64 c] 64)).alloc (.cells #[.string ⟨#[]⟩, .string nm] 105)).heap.size = w.heap.size + 1 + 1 by simp] at hb0
 rw [<- hT5] at hb0 ⊢
 replace h0 := zz h0
 replace hb0 := zz hb0
 have hT5' : w.heap.size <= T5 := by omega
 replace hT5 := zz hT5
 go_loopg [22] kv.length (fun k u22 wr => ∃ (i : Nat) (ev : Value), u22 = .int .i64 i /\ i + k = kv.length /\ Old w wr /\ Blk wr T5 #[.string ⟨#[]⟩, .string nm, ev] 108 /\ wr.ownsRow 0 110 3 ev i (kvCells (kv.take i)) /\ ∀ k, ev.ownBlock = some k -> w.heap.size <= k /\ k ≠ T5)
 case atStart => exact ⟨0, .slice none 0 0, rfl, by omega, h0.out, hb0.out, World.ownsRow_nil _ _ _ _, fun k hk => by simp [Value.ownBlock] at hk⟩
 case round =>
  obtain ⟨i, ev, rfl, hik, hOr, hBr, hrowr, hkr⟩ := hrel
  clear h0 hb0
  have c0 : wr.cell? ⟨T5, 0, none⟩ = some (.string ⟨#[]⟩) := by rw [hBr.cell]; rfl
  have c1 : wr.cell? ⟨T5, 1, none⟩ = some (.string nm) := by rw [hBr.cell]; rfl
  have c2 : wr.cell? ⟨T5, 2, none⟩ = some ev := by rw [hBr.cell]; rfl
  have f2 := hBr.fz 2
  by_cases hi : i < kv.length
  ·obtain ⟨g, nmi, rsi, rfl, q0, q1, q2, hkt⟩ := hrowc.out wr hOr i hi
   have hI : IntKind.i64.wrap ((i : Int) + 1) = ((i + 1 : Nat) : Int) := by rw [IntWalk.i64_in _ (by omega)]; omega
   have hi2 : (i : Int) < (kv.length : Int) := by omega
   have T5l : T5 < wr.heap.size := hBr.lt
   have hT5n : T5 ≠ wr.heap.size := by omega
   have hOr' := zz hOr
   have hBr' := zz hBr
   have hrowr' := zz hrowr
   have hkr' := zz hkr
   have hi' := zz hi
   clear hOr hBr hrowr hkr
   replace hkt := zz hkt
   have hAo : Old wr (wr.alloc (.cells #[.string ⟨#[]⟩, .string nmi, .string rsi] 73)) := (Fr.refl _ wr).alloc _
   have c2' := hAo.cell c2
   replace hAo := zz hAo
   go_wp2_with (at_builtin; refine wpList_append rfl _ _ 106 rfl 110 i0 _ 3 48 Tryz.underlying106 hi0 hz0 hz1 hz2 rfl (by decide) ev i _ rfl (ownsRow_frame (F := fun _ => False) hrowr'.out (((Fr.refl _ wr).alloc (.cells #[.string ⟨#[]⟩, .string nmi, .string rsi] 73)).alloc _) (fun _ _ h => h)) _ 1 1 [.string ⟨#[]⟩, .string nmi, .string rsi] rfl rfl (by decide) (by
     have := news_alloc (wr.alloc (.cells #[.string ⟨#[]⟩, .string nmi, .string rsi] 73)) [.string ⟨#[]⟩, .string nmi, .string rsi] 110
     rw [show (wr.alloc (.cells #[.string ⟨#[]⟩, .string nmi, .string rsi] 73)).heap.size = wr.heap.size + 1 by simp] at this
     exact this) (by intro u hu; simp at hu; rcases hu with rfl | rfl | rfl <;> rfl) (by unfold maxLen; omega) (by omega) ?_; intro g' c' w10 hrow' hgrow hnb; have f10 : Fr (fun x => ev.ownBlock = some x) wr w10 := (((Fr.refl (fun x => ev.ownBlock = some x) wr).alloc _).alloc _).grown hgrow (fun k hk => Or.inl hk); have b10 := hBr'.out.keep f10 (fun h => (hkr'.out _ h).2 rfl); have k3 : w10.cell? ⟨T5, 2, none⟩ = some ev := (by rw [b10.cell]; rfl); have q3 := b10.fz 2; replace hrow' := zz hrow'; replace hnb := zz hnb; replace f10 := zz f10; replace b10 := zz b10; clear hgrow)
   go_roundg (gk - 1)
   case measure => omega
   case rel =>
    have hw0 : w.heap.size <= wr.heap.size := hOr'.out.size
    have hO10 : Old w w10 := hOr'.out.trans f10.out (fun x hx => Or.inr (hkr'.out x hx).1)
    have hg' : w.heap.size <= g' /\ g' ≠ T5 := by
     rcases hnb.out with h | h
     ·exact hkr'.out _ h
     ·have e : ((wr.alloc (.cells #[.string ⟨#[]⟩, .string nmi, .string rsi] 73)).alloc (.cells #[.string ⟨#[]⟩, .string nmi, .string rsi] 110)).heap.size = wr.heap.size + 2 := by simp
      have h' : wr.heap.size + 2 <= g' := by rw [<- e]; exact h
      omega
    have hb5' := b10.out.set 2 (.slice (some ⟨g', 0, none⟩) (i + 1) c')
    simp only [List.setIfInBounds_toArray, List.set_cons_zero, List.set_cons_succ] at hb5'
    refine ⟨i + 1, _, rfl, by omega, hO10.set (Or.inr hT5') _ _, hb5', ?_, ?_⟩
    ·rw [hkt.out]
     exact ownsRow_setCell hrow'.out (by simp [Value.ownBlock]; omega) _
    ·intro k hk
     have : k = g' := by simpa [Value.ownBlock, eq_comm] using hk
     subst this
     exact hg'
  ·have hi2 : ¬ ((i : Int) < (kv.length : Int)) := by omega
   have hie : i = kv.length := by omega
   subst hie
   rw [List.take_length] at hrowr
   replace hOr := zz hOr
   replace hBr := zz hBr
   replace hrowr := zz hrowr
   replace hkr := zz hkr
   go_wp2
   go_ret2
   exact ⟨ev, rfl, hOr.out, hrowr.out, fun k hk => (hkr.out k hk).1⟩
theorem bytes_conv (w : World) (T : Nat) (d : List UInt8) (hT : Tryz.prog.underlying T = some (.slice 5)) : ∃ cap, (convert 9 T (.string ⟨d.toArray⟩)).run Tryz.prog w = .ok (.slice (some ⟨w.heap.size, 0, none⟩) d.length cap) (Lib.bytesWorld w 5 ⟨d.toArray⟩) /\ d.length <= cap := by
 have := Lib.run_convert_string_bytes (P := Tryz.prog) w 9 T 5 ⟨d.toArray⟩ Tryz.underlying9 hT Tryz.underlying5
 have hsz : (⟨d.toArray⟩ : ByteArray).size = d.length := by rw [Lib.size_eq]
 rw [hsz] at this
 exact ⟨_, this, grownCap_ge w _ 0 5⟩
theorem given_do (tk : Tk) (av : Value) (A : Nat -> Prop) (o l c : Int) (w : World) (ha : AttrV w A tk av) :
  Calls Tryz.prog 31 #[.agg #[.int .i64 tk.kind, .string ⟨#[]⟩, .string tk.loc, av, .string tk.text, .int .i64 o, .int .i64 l, .int .i64 c]] w fun e w' => ∃ x, e = .returned (.tuple #[x, .bool true]) /\ Old w w' /\ GivenV w' w.heap.size x tk := by
 cases tk with
 | st nm kv =>
  refine (given_st (nameB nm) kv av o l c w ha.1 ha.2.2).mono ?_
  rintro e w' ⟨ev, rfl, h1, h2, h3⟩
  exact ⟨_, rfl, h1, ev, rfl, h2, h3⟩
 | en nm =>
  obtain rfl : av = _ := ha
  show Calls Tryz.prog 31 #[.agg #[.int .i64 2, .string ⟨#[]⟩, .string (nameB nm), .slice none 0 0, .string ⟨#[]⟩, .int .i64 o, .int .i64 l, .int .i64 c]] w _
  generalize hS : nameB nm = S at *
  replace hS := zz hS
  go_enter Tryz.func31, Tryz.ntmps31
  go_wp2
  go_ret2
  refine ⟨_, rfl, (((Fr.refl _ w).alloc _).alloc _), ?_⟩
  show Value.iface 112 (.agg #[.string ⟨#[]⟩, .string S]) = .iface 112 (.agg #[.string ⟨#[]⟩, .string (nameB nm)])
  rw [hS.out]
 | tx rs =>
  obtain rfl : av = _ := ha
  show Calls Tryz.prog 31 #[.agg #[.int .i64 3, .string ⟨#[]⟩, .string ⟨#[]⟩, .slice none 0 0, .string ⟨(nb rs).toArray⟩, .int .i64 o, .int .i64 l, .int .i64 c]] w _
  generalize hd : nb rs = d at *
  obtain ⟨W, hW⟩ : ∃ W, W = (w.alloc (.cells #[.int .i64 3, .string ⟨#[]⟩, .string ⟨#[]⟩, .slice none 0 0, .string ⟨d.toArray⟩, .int .i64 o, .int .i64 l, .int .i64 c] 64)).alloc (.cells #[.string ⟨#[]⟩, .string ⟨#[]⟩] 105) := ⟨_, rfl⟩
  obtain ⟨cap, hcv, hcap⟩ := bytes_conv W 113 d Tryz.underlying113
  have hOW : Old w W := by rw [hW]; exact ((Fr.refl _ w).alloc _).alloc _
  have hbo := bytesWorld_old W ⟨d.toArray⟩
  have hbl := bytesWorld_lies W d
  have hbz := Lib.bytesWorld_size W 5 ⟨d.toArray⟩
  generalize Lib.bytesWorld W 5 ⟨d.toArray⟩ = W2 at *
  have hfin : Old w W2 /\ GivenV W2 w.heap.size (.iface 113 (.slice (some ⟨W.heap.size, 0, none⟩) d.length cap)) (.tx rs) := ⟨hOW.old hbo, W.heap.size, d.length, cap, rfl, by rw [hd], hcap, by rw [hd]; exact hbl, hOW.size, by omega⟩
  have hWs : W.heap.size = w.heap.size + 1 + 1 := by rw [hW]; simp
  rw [hWs] at hcv hfin
  replace hfin := zz hfin
  replace hd := zz hd
  generalize hN : d.length = N at *
  replace hN := zz hN
  clear hOW hbo hbl hbz hcap hWs
  subst hW
  go_enter Tryz.func31, Tryz.ntmps31
  go_wp2
  go_ret2
  exact ⟨.iface 113 (.slice (some ⟨w.heap.size + 1 + 1, 0, none⟩) N cap), rfl, hfin.out⟩
 | cm d =>
  obtain rfl : av = _ := ha
  show Calls Tryz.prog 31 #[.agg #[.int .i64 4, .string ⟨#[]⟩, .string ⟨#[]⟩, .slice none 0 0, .string ⟨d.toArray⟩, .int .i64 o, .int .i64 l, .int .i64 c]] w _
  obtain ⟨W, hW⟩ : ∃ W, W = (w.alloc (.cells #[.int .i64 4, .string ⟨#[]⟩, .string ⟨#[]⟩, .slice none 0 0, .string ⟨d.toArray⟩, .int .i64 o, .int .i64 l, .int .i64 c] 64)).alloc (.cells #[.string ⟨#[]⟩, .string ⟨#[]⟩] 105) := ⟨_, rfl⟩
  obtain ⟨cap, hcv, hcap⟩ := bytes_conv W 114 d Tryz.underlying114
  have hOW : Old w W := by rw [hW]; exact ((Fr.refl _ w).alloc _).alloc _
  have hbo := bytesWorld_old W ⟨d.toArray⟩
  have hbl := bytesWorld_lies W d
  have hbz := Lib.bytesWorld_size W 5 ⟨d.toArray⟩
  generalize Lib.bytesWorld W 5 ⟨d.toArray⟩ = W2 at *
  have hfin : Old w W2 /\ GivenV W2 w.heap.size (.iface 114 (.slice (some ⟨W.heap.size, 0, none⟩) d.length cap)) (.cm d) := ⟨hOW.old hbo, W.heap.size, d.length, cap, rfl, rfl, hcap, hbl, hOW.size, by omega⟩
  have hWs : W.heap.size = w.heap.size + 1 + 1 := by rw [hW]; simp
  rw [hWs] at hcv hfin
  replace hfin := zz hfin
  generalize hN : d.length = N at *
  replace hN := zz hN
  clear hOW hbo hbl hbz hcap hWs
  subst hW
  go_enter Tryz.func31, Tryz.ntmps31
  go_wp2
  go_ret2
  exact ⟨.iface 114 (.slice (some ⟨w.heap.size + 1 + 1, 0, none⟩) N cap), rfl, hfin.out⟩
 | pi nm d =>
  obtain rfl : av = _ := ha
  show Calls Tryz.prog 31 #[.agg #[.int .i64 5, .string ⟨#[]⟩, .string (nameB nm), .slice none 0 0, .string ⟨d.toArray⟩, .int .i64 o, .int .i64 l, .int .i64 c]] w _
  obtain ⟨S, hS⟩ : ∃ S, S = nameB nm := ⟨_, rfl⟩
  rw [<- hS]
  obtain ⟨W, hW⟩ : ∃ W, W = (w.alloc (.cells #[.int .i64 5, .string ⟨#[]⟩, .string S, .slice none 0 0, .string ⟨d.toArray⟩, .int .i64 o, .int .i64 l, .int .i64 c] 64)).alloc (.cells #[.string ⟨#[]⟩, .string S] 105) := ⟨_, rfl⟩
  obtain ⟨cap, hcv, hcap⟩ := bytes_conv W 56 d Tryz.underlying56
  have hOW : Old w W := by rw [hW]; exact ((Fr.refl _ w).alloc _).alloc _
  have hbo := bytesWorld_old W ⟨d.toArray⟩
  have hbl := bytesWorld_lies W d
  have hbz := Lib.bytesWorld_size W 5 ⟨d.toArray⟩
  generalize Lib.bytesWorld W 5 ⟨d.toArray⟩ = W2 at *
  have hfin : Old w W2 /\ GivenV W2 w.heap.size (.iface 116 (.agg #[.string S, .slice (some ⟨W.heap.size, 0, none⟩) d.length cap])) (.pi nm d) := ⟨hOW.old hbo, W.heap.size, d.length, cap, by rw [hS], rfl, hcap, hbl, hOW.size, by omega⟩
  have hWs : W.heap.size = w.heap.size + 1 + 1 := by rw [hW]; simp
  rw [hWs] at hcv hfin
  replace hfin := zz hfin
  generalize hN : d.length = N at *
  replace hN := zz hN
  replace hS := zz hS
  clear hOW hbo hbl hbz hcap hWs
  subst hW
  go_enter Tryz.func31, Tryz.ntmps31
  go_wp2
  go_ret2
  exact ⟨.iface 116 (.agg #[.string S, .slice (some ⟨w.heap.size + 1 + 1, 0, none⟩) N cap]), rfl, hfin.out⟩
end
end Go.Proofs.YtepbbahdhhjibaaGreatDoor
