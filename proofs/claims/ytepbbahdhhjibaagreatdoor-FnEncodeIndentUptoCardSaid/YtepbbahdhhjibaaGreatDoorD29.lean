/- own text -/
import Derived.Test.YtepbbahdhhjibaaGreatDoorD20
import Derived.Test.YtepbbahdhhjibaaGreatDoorD27
import Derived.Test.YtepbbahdhhjibaaGreatDoorD28
namespace Go.Proofs.YtepbbahdhhjibaaGreatDoor
set_option linter.unusedSimpArgs false
set_option linter.unusedVariables false
set_option maxHeartbeats 4000000
set_option maxRecDepth 100000
set_option linter.unusedSectionVars false
section
open Go.RowKit
def EncP (X : Px) (j : Iv) (w : World) (v : Pv) (o : List UInt8) (tags : List ByteArray) (w' : World) : Prop := ∃ v', PSt X w v w' v' /\ Pr (X.at j) w' v' false o tags
theorem EncP.trans {X : Px} {j : Iv} {w w1 w2 : World} {v v1 : Pv} {o : List UInt8} {tags : List ByteArray} (s : PSt X w v w1 v1) (h : EncP X j w1 v1 o tags w2) : EncP X j w v o tags w2 := by
 obtain ⟨v', h1, h2⟩ := h
 exact ⟨v', s.trans h1, h2⟩
theorem enc_cached {X : Px} {j : Iv} {w w1 : World} {v : Pv} {o : List UInt8} {tags : List ByteArray} (h : EncP X j w v o tags w1) : Calls Tryz.prog 58 #[.pointer (some ⟨X.P, 0, none⟩)] w1 fun e w2 => e = .returned .nilIface /\ Hid (EncP X j w v o tags w2) := by
 obtain ⟨v1, h1, h2⟩ := h
 refine (pcached (X.at j) v1 o tags w1 h2).mono ?_
 rintro e w2 ⟨rfl, va', k1, k2⟩
 rw [List.append_nil] at k2
 exact ⟨rfl, _, h1.trans ⟨k1.fr, k1.nw⟩, k2⟩
section
variable (X : Px) (v : Pv) (out : List UInt8) (tags : List ByteArray) (w : World) (h : Pr X w v false out tags) (hU : UT w) (h5 : ∀ x, X.own v x -> 5 <= x) (h5w : 5 <= w.heap.size) (htags : tags.length <= 549755813888) (hin : X.ind ≠ []) (hdp : X.iv.d <= 549755813888)
include h htags hin hdp
theorem enc_en (nm : List Nat) (hne : nb nm ≠ []) (tags0 : List ByteArray) (ht : tags = tags0 ++ [nameB nm]) (hd1 : 1 <= X.iv.d) (hl0 : out.length + (lead X.pre X.ind X.iv.nl (X.iv.d - 1)).length + (nb nm).length + 100 <= 1099511627776) :
  Calls Tryz.prog 33 #[.pointer (some ⟨X.P, 0, none⟩), .iface 112 (.agg #[.string ⟨#[]⟩, .string (nameB nm)])] w fun e w' => e = .returned .nilIface /\ EncP X (X.iv.next (.en nm)) w v (out ++ (X.iv.lead X.pre X.ind (.en nm) ++ tkOut (.en nm))) tags0 w' := by
 have ta1 := ta_112_108
 have ta2 := ta_112_112
 subst ht
 have hc : ∀ w1, Old w w1 -> Calls Tryz.prog 52 #[.pointer (some ⟨X.P, 0, none⟩), .agg #[.string ⟨#[]⟩, .string (nameB nm)]] w1 fun e w' => e = .returned .nilIface /\ Hid (EncP X (X.iv.next (.en nm)) w v (out ++ (X.iv.lead X.pre X.ind (.en nm) ++ tkOut (.en nm))) tags0 w') := fun w1 ho => by
  refine (pend X v out tags0 nm w1 hne (h.old ho) (by simp at htags; omega) hin hd1 hdp hl0).mono ?_
  rintro e w' ⟨rfl, v', k1, k2⟩
  exact ⟨rfl, v', (PSt.ofOld v ho).trans k1, k2⟩
 replace hc := zz hc
 clear h htags hin hdp
 go_enter Tryz.func33, Tryz.ntmps33
 go_wp2_with (first
  | (go_at_call 52; refine (hc.out _ (by exact (Fr.refl _ w).alloc _)).mono ?_; rintro e w1 ⟨rfl, k1⟩)
  | (go_at_call 58; refine (enc_cached k1.out).mono ?_; rintro e w2 ⟨rfl, k2⟩))
 go_ret
 exact ⟨rfl, k2.out⟩
include hU h5 h5w
theorem enc_st (nm : List Nat) (kv : List (List Nat × List Nat)) (av : Value) (hne : nb nm ≠ []) (hkv : w.ownsRow 0 110 3 av kv.length (kvCells kv)) (hAo : ∀ k, av.ownBlock = some k -> ¬ X.own v k) (hkn : kv.length <= 549755813888) (hnm : ∀ x ∈ kv, nb x.1 ≠ []) (hvl : ∀ x ∈ kv, (∀ r ∈ x.2, isCh r = true) /\ (nb x.2).length <= 1000000000)
  (hl0 : out.length + (lead X.pre X.ind X.iv.nl X.iv.d).length + (startOut nm kv).length + 6 * (kv.flatMap fun x => nb x.2).length + 100 <= 1099511627776) :
  Calls Tryz.prog 33 #[.pointer (some ⟨X.P, 0, none⟩), .iface 108 (.agg #[.string ⟨#[]⟩, .string (nameB nm), av])] w fun e w' => e = .returned .nilIface /\ EncP X (X.iv.next (.st nm kv)) w v (out ++ (X.iv.lead X.pre X.ind (.st nm kv) ++ tkOut (.st nm kv))) (tags ++ [nameB nm]) w' := by
 have ta1 := ta_108_108
 have hpa : ∃ pa na ca, av = .slice pa na ca := by
  rcases hkv.2 with ⟨h1, _⟩ | ⟨g, cap, cur, h1, _⟩
  ·exact ⟨_, _, _, h1⟩
  ·exact ⟨_, _, _, h1⟩
 obtain ⟨pa, na, ca, rfl⟩ := hpa
 have hc : Calls Tryz.prog 51 #[.pointer (some ⟨X.P, 0, none⟩), .pointer (some ⟨w.heap.size, 0, none⟩)] (w.alloc (.cells #[.string ⟨#[]⟩, .string (nameB nm), .slice pa na ca] 108)) fun e w' => e = .returned .nilIface /\ Hid (EncP X (X.iv.next (.st nm kv)) w v (out ++ (X.iv.lead X.pre X.ind (.st nm kv) ++ tkOut (.st nm kv))) (tags ++ [nameB nm]) w') := by
  have ho : Old w (w.alloc (.cells #[.string ⟨#[]⟩, .string (nameB nm), .slice pa na ca] 108)) := (Fr.refl _ w).alloc _
  refine (pstart X v out tags nm kv w.heap.size (.slice pa na ca) _ hne (Blk.new w _ _) (fun hx => by have := h.lt _ hx; omega) (ownsRow_frame hkv ho (fun _ _ h => h)) hAo hkn hnm hvl (hU.fr ho (fun h => h) (fun h => h)) h5 (Nat.le_trans h5w ho.size) (h.old ho) htags hin hdp hl0).mono ?_
  rintro e w' ⟨rfl, v', k1, k2⟩
  exact ⟨rfl, v', (PSt.ofOld v ho).trans k1, k2⟩
 replace hc := zz hc
 clear h htags hin hdp hkv hAo hkn hnm hvl hl0 hU h5 h5w
 go_enter Tryz.func33, Tryz.ntmps33
 go_wp2_with (first
  | (go_at_call 51; refine hc.out.mono ?_; rintro e w1 ⟨rfl, k1⟩)
  | (go_at_call 58; refine (enc_cached k1.out).mono ?_; rintro e w2 ⟨rfl, k2⟩))
 go_ret
 exact ⟨rfl, k2.out⟩
end
end
section
open Go.RowKit
theorem ta_55_96 (x : Value) (w : World) : (Instr.typeAssert (.iface 55 x) 95 96 true).run Tryz.prog w = .ok (.tuple #[.pointer none, .bool false]) w := by kernel_rfl
theorem getM {w w' : World} {b : Nat} {o : Obj} (f : Old w w') (h : w.heap[b]? = some o) : w'.heap[b]? = some o := f.heap (fun h => h) h
theorem newEnc_do (WB : Nat) (w : World) (hW : Blk w WB #[.slice none 0 0] 58) : Calls Tryz.prog 29 #[.iface 55 (.pointer (some ⟨WB, 0, none⟩))] w fun e w' => ∃ X : Px, e = .returned (.pointer (some ⟨X.P, 0, none⟩)) /\ X.E.W = WB /\ X.iv = ⟨0, false, false⟩ /\ Old w w' /\ (∃ v, Pr X w' v false [] [] /\ ∀ x, X.own v x -> x = WB \/ w.heap.size <= x) := by
 have t1 := ta_55_96
 have hmk := mk4096
 have hWl := hW.lt
 replace hW := zz hW
 go_enter Tryz.func29, Tryz.ntmps29
 go_wp2
 go_ret
 obtain ⟨W1, hW1⟩ : ∃ W1, W1 = w.alloc (.cells (madeCells #[.int .u8 0] 4096) 5) := ⟨_, rfl⟩
 have s1 : W1.heap.size = w.heap.size + 1 := by rw [hW1]; simp
 have b1 : Blk W1 w.heap.size (madeCells #[.int .u8 0] 4096) 5 := by rw [hW1]; exact Blk.new w _ _
 have o1 : Old w W1 := by rw [hW1]; exact (Fr.refl _ w).alloc _
 rw [<- hW1]
 have b2 := Blk.new W1 #[.nilIface, .slice (some ⟨w.heap.size, 0, none⟩) 4096 4096, .int .i64 0, .iface 55 (.pointer (some ⟨WB, 0, none⟩))] 196
 rw [s1] at b2
 obtain ⟨W2, hW2⟩ : ∃ W2, W2 = W1.alloc (.cells #[.nilIface, .slice (some ⟨w.heap.size, 0, none⟩) 4096 4096, .int .i64 0, .iface 55 (.pointer (some ⟨WB, 0, none⟩))] 196) := ⟨_, rfl⟩
 have s2 : W2.heap.size = w.heap.size + 2 := by rw [hW2]; simp; omega
 have o2 : Old W1 W2 := by rw [hW2]; exact (Fr.refl _ W1).alloc _
 rw [<- hW2] at b2
 have hh : ∀ c, W1.alloc c = W1.alloc c := fun _ => rfl
 rw [<- hW2]
 have b3 := Blk.new W2 (prA ⟨w.heap.size + 1 + 1, ⟨w.heap.size + 1, w.heap.size, WB⟩, [], [], ⟨0, false, false⟩⟩ ⟨.slice none 0 0, .slice none 0 0, .slice none 0 0⟩ false) 103
 rw [s2] at b3
 have o3 : Old W2 (W2.alloc (.cells (prA ⟨w.heap.size + 1 + 1, ⟨w.heap.size + 1, w.heap.size, WB⟩, [], [], ⟨0, false, false⟩⟩ ⟨.slice none 0 0, .slice none 0 0, .slice none 0 0⟩ false) 103)) := (Fr.refl _ W2).alloc _
 have hcel : (madeCells #[.int .u8 0] 4096).size = 4096 := by simp [madeCells]
 refine ⟨⟨w.heap.size + 1 + 1, ⟨w.heap.size + 1, w.heap.size, WB⟩, [], [], ⟨0, false, false⟩⟩, rfl, rfl, rfl, (o1.old o2).old o3, ⟨.slice none 0 0, .slice none 0 0, .slice none 0 0⟩, ⟨b3, ⟨⟨[], [], _, rfl, by simp, ?_, ?_, hcel, rfl, ?_, World.ownsRow_nil _ _ _ _⟩, ⟨by simp, ?_, ?_⟩, fun k hk => by cases hk⟩, World.ownsRow_nil _ _ _ _, World.ownsRow_nil _ _ _ _, ?_, fun k hk => (by cases hk), fun k hk => (by cases hk)⟩, ?_⟩
 ·exact b2.keep o3 (fun h => h)
 ·exact (b1.keep o2 (fun h => h)).keep o3 (fun h => h)
 ·exact hW.out.keep ((o1.old o2).old o3) (fun h => h)
 ·simp; omega
 ·simp; omega
 ·rintro (h | h | h | h)
  ·simp at h
  ·have h' : w.heap.size + 1 + 1 = w.heap.size := h
   omega
  ·have h' : w.heap.size + 1 + 1 = WB := h
   omega
  ·cases h
 ·rintro x (h | (h | h | h | h) | h | h)
  ·simp at h; right; omega
  ·simp at h; right; omega
  ·simp at h; right; omega
  ·exact .inl h
  ·cases h
  ·cases h
  ·cases h
theorem eflush_do (X : Px) (v : Pv) (out : List UInt8) (tags : List ByteArray) (w : World) (h : Pr X w v false out tags) (hl : out.length <= 1099511627776) :
  Calls Tryz.prog 34 #[.pointer (some ⟨X.P, 0, none⟩)] w fun e w' => e = .returned .nilIface /\ ∃ va', PSt X w v w' ⟨va', v.pv, v.tv⟩ /\ Pr X w' ⟨va', v.pv, v.tv⟩ false out tags /\ w'.cell? ⟨X.E.B, 2, none⟩ = some (.int .i64 0) := by
 obtain ⟨c0, _, _, _, _, c12, c13, _⟩ := h.cells
 have hc := (flush_do X.E v.va out w h.W hl).mono (R' := fun e w1 => e = .returned .nilIface /\ Hid (∃ va', PSt X w v w1 ⟨va', v.pv, v.tv⟩ /\ Pr X w1 ⟨va', v.pv, v.tv⟩ false out tags /\ w1.cell? ⟨X.E.B, 2, none⟩ = some (.int .i64 0))) (by
  rintro e w1 ⟨rfl, va', s, k, k2⟩
  obtain ⟨h1, h2⟩ := h.step s k
  exact ⟨rfl, va', h2, h1, k2⟩)
 clear h
 go_enter Tryz.func34, Tryz.ntmps34
 go_wp2_with (go_at_call 63; refine hc.mono ?_; rintro e w1 ⟨rfl, k⟩)
 go_ret
 exact ⟨rfl, k.out⟩
theorem pclose_do (X : Px) (v : Pv) (out : List UInt8) (w : World) (h : Pr X w v false out []) (hl : out.length <= 1099511627776) :
  Calls Tryz.prog 64 #[.pointer (some ⟨X.P, 0, none⟩)] w fun e w' => e = .returned .nilIface /\ ∃ va', PSt X w v w' ⟨va', v.pv, v.tv⟩ /\ Wr X.E w' va' out /\ w'.cell? ⟨X.E.B, 2, none⟩ = some (.int .i64 0) := by
 have c0 : w.cell? ⟨X.P, 0, none⟩ = some (.pointer (some ⟨X.E.B, 0, none⟩)) := h.cells.1
 have c12 : w.cell? ⟨X.P, 12, none⟩ = some (.bool false) := by rw [h.D.cell]; rfl
 have f12 := h.D.fz 12
 obtain ⟨W1, hW1⟩ : ∃ W1, W1 = w.setCell ⟨X.P, 12, none⟩ (.bool true) := ⟨_, rfl⟩
 have f1 : Fr (fun x => x = X.P) w W1 := by rw [hW1]; exact (Fr.refl (fun x => x = X.P) w).set (Or.inl rfl) _ _
 have b1 : Blk W1 X.P (prA X v true) 103 := by rw [hW1]; exact h.D.set 12 (.bool true)
 have w1 : Wr X.E W1 v.va out := h.W.keep f1 (fun x hx e => h.nP (e ▸ hx))
 obtain ⟨pt, ct, hpt⟩ : ∃ pt ct, v.tv = .slice pt 0 ct := by
  rcases h.tg.2 with ⟨h1, _⟩ | ⟨g, cap, cur, h1, _⟩
  ·exact ⟨_, _, h1⟩
  ·exact ⟨_, _, h1⟩
 have hc := (flush_do X.E v.va out W1 w1 hl).mono (R' := fun e w2 => e = .returned .nilIface /\ w2.cell? ⟨X.P, 11, none⟩ = some (.slice pt 0 ct) /\ Hid (∃ va', PSt X w v w2 ⟨va', v.pv, v.tv⟩ /\ Wr X.E w2 va' out /\ w2.cell? ⟨X.E.B, 2, none⟩ = some (.int .i64 0))) (by
  rintro e w2 ⟨rfl, va', s, k, k2⟩
  have b2 := b1.keep s.fr h.nP
  refine ⟨rfl, by rw [b2.cell, <- hpt]; rfl, va', ⟨(f1.mono (fun x hx => .inl (.inl hx))).trans s.fr (fun x hx => .inl (.inr (.inl hx))), ?_⟩, k, k2⟩
  rintro x (hx | hx | hx | hx)
  ·exact .inl (.inl hx)
  ·exact (s.own x hx).imp (fun h => .inr (.inl h)) (fun h => Nat.le_trans f1.size h)
  ·exact .inl (.inr (.inr (.inl hx)))
  ·exact .inl (.inr (.inr (.inr hx))))
 have c0' : W1.cell? ⟨X.P, 0, none⟩ = some (.pointer (some ⟨X.E.B, 0, none⟩)) := by rw [b1.cell]; rfl
 subst hW1
 clear h b1 w1 f1 hpt
 go_enter Tryz.func64, Tryz.ntmps64
 go_wp2_with (go_at_call 63; refine hc.mono ?_; rintro e w1 ⟨rfl, k11, k⟩)
 go_ret
 exact ⟨rfl, k.out⟩
theorem eclose_do (X : Px) (v : Pv) (out : List UInt8) (w : World) (h : Pr X w v false out []) (hl : out.length <= 1099511627776) :
  Calls Tryz.prog 35 #[.pointer (some ⟨X.P, 0, none⟩)] w fun e w' => e = .returned .nilIface /\ ∃ va', PSt X w v w' ⟨va', v.pv, v.tv⟩ /\ Wr X.E w' va' out /\ w'.cell? ⟨X.E.B, 2, none⟩ = some (.int .i64 0) := by
 have hc := (pclose_do X v out w h hl).mono (R' := fun e w1 => e = .returned .nilIface /\ Hid (∃ va', PSt X w v w1 ⟨va', v.pv, v.tv⟩ /\ Wr X.E w1 va' out /\ w1.cell? ⟨X.E.B, 2, none⟩ = some (.int .i64 0))) (fun _ _ h => h)
 clear h
 go_enter Tryz.func35, Tryz.ntmps35
 go_wp2_with (go_at_call 64; refine hc.mono ?_; rintro e w1 ⟨rfl, k⟩)
 go_ret
 exact ⟨rfl, k.out⟩
theorem eindent_do (X : Px) (v : Pv) (out : List UInt8) (tags : List ByteArray) (pre ind : List UInt8) (sp si : ByteArray) (hp : sp = ⟨pre.toArray⟩) (hi : si = ⟨ind.toArray⟩) (w : World) (h : Pr X w v false out tags) :
  Calls Tryz.prog 30 #[.pointer (some ⟨X.P, 0, none⟩), .string sp, .string si] w fun e w' => e = .returned (.tuple #[]) /\ PSt X w v w' v /\ Pr ⟨X.P, X.E, pre, ind, X.iv⟩ w' v false out tags := by
 have k1 : PSt X w v ((w.setCell ⟨X.P, 4, none⟩ (.string sp)).setCell ⟨X.P, 3, none⟩ (.string si)) v := ((PSt.refl X w v).set 4 _).set 3 _
 have k2 : Pr ⟨X.P, X.E, pre, ind, X.iv⟩ ((w.setCell ⟨X.P, 4, none⟩ (.string sp)).setCell ⟨X.P, 3, none⟩ (.string si)) v false out tags := by
  subst hp hi
  have h1 : Pr ⟨X.P, X.E, pre, X.ind, X.iv⟩ (w.setCell ⟨X.P, 4, none⟩ (.string ⟨pre.toArray⟩)) v false out tags := h.put 4 _ rfl rfl rfl
  exact h1.put 3 (.string ⟨ind.toArray⟩) rfl rfl rfl
 obtain ⟨c0, c3, c4, _, _, _, _, cf⟩ := h.cells
 replace k1 := zz k1
 replace k2 := zz k2
 clear h hp hi
 go_enter Tryz.func30, Tryz.ntmps30
 go_wp2
 go_end0
 exact ⟨rfl, k1.out, k2.out⟩
end
section
open Go.RowKit
def GivenV (w : World) (base : Nat) (x : Value) : Tk -> Prop
 | .st nm kv => ∃ av, x = .iface 108 (.agg #[.string ⟨#[]⟩, .string (nameB nm), av]) /\ w.ownsRow 0 110 3 av kv.length (kvCells kv) /\ ∀ k, av.ownBlock = some k -> base <= k
 | .en nm => x = .iface 112 (.agg #[.string ⟨#[]⟩, .string (nameB nm)])
 | _ => False
theorem kvCells_take {kv : List (List Nat × List Nat)} {i : Nat} (h : i < kv.length) : kvCells (kv.take (i + 1)) = kvCells (kv.take i) ++ [.string ⟨#[]⟩, .string (nameB kv[i].1), .string (nameB kv[i].2)] := by
 unfold kvCells; rw [List.take_succ_eq_append_getElem h, List.flatMap_append]; simp
theorem given_st (nm : ByteArray) (kv : List (List Nat × List Nat)) (av : Value) (o l c : Int) (w : World) (hrow : w.ownsRow 0 73 3 av kv.length (kvCells kv)) (hn : kv.length <= 549755813888) :
  Calls Tryz.prog 31 #[.agg #[.int .i64 1, .string ⟨#[]⟩, .string nm, av, .string ⟨#[]⟩, .int .i64 o, .int .i64 l, .int .i64 c]] w fun e w' => ∃ ev, e = .returned (.tuple #[.iface 108 (.agg #[.string ⟨#[]⟩, .string nm, ev]), .bool true]) /\ Old w w' /\ w'.ownsRow 0 110 3 ev kv.length (kvCells kv) /\ ∀ k, ev.ownBlock = some k -> w.heap.size <= k := by
 obtain ⟨i0, hi0, hz0, hz1, hz2⟩ := info_parts info110
 obtain ⟨pa, na, ca, rfl⟩ : ∃ pa na ca, av = .slice pa na ca := by
  rcases hrow.2 with ⟨h1, _⟩ | ⟨g, cap, cur, h1, _⟩
  ·exact ⟨_, _, _, h1⟩
  ·exact ⟨_, _, _, h1⟩
 have hna : na = kv.length := by
  rcases hrow.2 with ⟨h1, h2⟩ | ⟨g, cap, cur, h1, _⟩
  ·injection h1 with _ h3 _; omega
  ·injection h1
 subst hna
 have hrowc : ∀ w', Old w w' -> ∀ i (h : i < kv.length), ∃ g nmi rsi, pa = some ⟨g, 0, none⟩ /\ w'.cell? ⟨g, i * 3, none⟩ = some (.string ⟨#[]⟩) /\ w'.cell? ⟨g, i * 3 + 1, none⟩ = some (.string nmi) /\ w'.cell? ⟨g, i * 3 + 2, none⟩ = some (.string rsi) /\ kvCells (kv.take (i + 1)) = kvCells (kv.take i) ++ [.string ⟨#[]⟩, .string nmi, .string rsi] := by
  intro w' ho i hi
  obtain ⟨g, cap, hv, _, hc⟩ := ownsRow_some hrow (by omega)
  obtain ⟨h1, h2, h3⟩ := kv_cells kv i hi
  exact ⟨g, _, _, by injection hv, ho.cell (hc _ _ h1), ho.cell (hc _ _ h2), ho.cell (hc _ _ h3), kvCells_take hi⟩
 replace hrowc := zz hrowc
 obtain ⟨T5, hT5⟩ : ∃ T5, T5 = w.heap.size + 1 + 1 := ⟨_, rfl⟩
 clear hrow
 go_enter Tryz.func31, Tryz.ntmps31
 go_wp2
 have h0 : Old w (((w.alloc (.cells #[.int .i64 1, .string ⟨#[]⟩, .string nm, .slice pa kv.length ca, .string ⟨#[]⟩, .int .i64 o, .int .i64 l, .int .i64 c] 64)).alloc (.cells #[.string ⟨#[]⟩, .string nm] 105)).alloc (.cells #[.string ⟨#[]⟩, .string nm, .slice none 0 0] 108)) := (((Fr.refl _ w).alloc _).alloc _).alloc _
 have hb0 := Blk.new ((w.alloc (.cells #[.int .i64 1, .string ⟨#[]⟩, .string nm, .slice pa kv.length ca, .string ⟨#[]⟩, .int .i64 o, .int .i64 l, .int .i64 c] 64)).alloc (.cells #[.string ⟨#[]⟩, .string nm] 105)) #[.string ⟨#[]⟩, .string nm, .slice none 0 0] 108
 rw [show ((w.alloc (.cells #[.int .i64 1, .string ⟨#[]⟩, .string nm, .slice pa kv.length ca, .string ⟨#[]⟩, .int .i64 o, .int .i64 l, .int .i64 c] 64)).alloc (.cells #[.string ⟨#[]⟩, .string nm] 105)).heap.size = w.heap.size + 1 + 1 by simp] at hb0
 rw [<- hT5] at hb0 ⊢
 replace h0 := zz h0
 replace hb0 := zz hb0
 have hT5' : w.heap.size <= T5 := by omega
 replace hT5 := zz hT5
 go_loopg [22] kv.length (fun k u22 wr => ∃ (i : Nat) (ev : Value), u22 = .int .i64 i /\ i + k = kv.length /\ Old w wr /\ Blk wr T5 #[.string ⟨#[]⟩, .string nm, ev] 108 /\ wr.ownsRow 0 110 3 ev i (kvCells (kv.take i)) /\ ∀ k, ev.ownBlock = some k -> w.heap.size <= k /\ k ≠ T5)
 case atStart => exact ⟨0, .slice none 0 0, rfl, by omega, h0.out, hb0.out, World.ownsRow_nil _ _ _ _, fun k hk => by simp [Value.ownBlock] at hk⟩
 case round =>
  obtain ⟨i, ev, rfl, hik, hOr, hBr, hrowr, hkr⟩ := hrel
  clear h0 hb0
  have c0 : wr.cell? ⟨T5, 0, none⟩ = some (.string ⟨#[]⟩) := by rw [hBr.cell]; rfl
  have c1 : wr.cell? ⟨T5, 1, none⟩ = some (.string nm) := by rw [hBr.cell]; rfl
  have c2 : wr.cell? ⟨T5, 2, none⟩ = some ev := by rw [hBr.cell]; rfl
  have f2 := hBr.fz 2
  by_cases hi : i < kv.length
  ·obtain ⟨g, nmi, rsi, rfl, q0, q1, q2, hkt⟩ := hrowc.out wr hOr i hi
   have hI : IntKind.i64.wrap ((i : Int) + 1) = ((i + 1 : Nat) : Int) := by rw [IntWalk.i64_in _ (by omega)]; omega
   have hi2 : (i : Int) < (kv.length : Int) := by omega
   have T5l : T5 < wr.heap.size := hBr.lt
   have hT5n : T5 ≠ wr.heap.size := by omega
   have hOr' := zz hOr
   have hBr' := zz hBr
   have hrowr' := zz hrowr
   have hkr' := zz hkr
   have hi' := zz hi
   clear hOr hBr hrowr hkr
   replace hkt := zz hkt
   have hAo : Old wr (wr.alloc (.cells #[.string ⟨#[]⟩, .string nmi, .string rsi] 73)) := (Fr.refl _ wr).alloc _
   have c2' := hAo.cell c2
   replace hAo := zz hAo
   go_wp2_with (at_builtin; refine wpList_append rfl _ _ 106 rfl 110 i0 _ 3 48 Tryz.underlying106 hi0 hz0 hz1 hz2 rfl (by decide) ev i _ rfl (ownsRow_frame (F := fun _ => False) hrowr'.out (((Fr.refl _ wr).alloc (.cells #[.string ⟨#[]⟩, .string nmi, .string rsi] 73)).alloc _) (fun _ _ h => h)) _ 1 1 [.string ⟨#[]⟩, .string nmi, .string rsi] rfl rfl (by decide) (by
     have := news_alloc (wr.alloc (.cells #[.string ⟨#[]⟩, .string nmi, .string rsi] 73)) [.string ⟨#[]⟩, .string nmi, .string rsi] 110
     rw [show (wr.alloc (.cells #[.string ⟨#[]⟩, .string nmi, .string rsi] 73)).heap.size = wr.heap.size + 1 by simp] at this
     exact this) (by intro u hu; simp at hu; rcases hu with rfl | rfl | rfl <;> rfl) (by unfold maxLen; omega) (by omega) ?_; intro g' c' w10 hrow' hgrow hnb; have f10 : Fr (fun x => ev.ownBlock = some x) wr w10 := (((Fr.refl (fun x => ev.ownBlock = some x) wr).alloc _).alloc _).grown hgrow (fun k hk => Or.inl hk); have b10 := hBr'.out.keep f10 (fun h => (hkr'.out _ h).2 rfl); have k3 : w10.cell? ⟨T5, 2, none⟩ = some ev := (by rw [b10.cell]; rfl); have q3 := b10.fz 2; replace hrow' := zz hrow'; replace hnb := zz hnb; replace f10 := zz f10; replace b10 := zz b10; clear hgrow)
   go_roundg (gk - 1)
   case measure => omega
   case rel =>
    have hw0 : w.heap.size <= wr.heap.size := hOr'.out.size
    have hO10 : Old w w10 := hOr'.out.trans f10.out (fun x hx => Or.inr (hkr'.out x hx).1)
    have hg' : w.heap.size <= g' /\ g' ≠ T5 := by
     rcases hnb.out with h | h
     ·exact hkr'.out _ h
     ·have e : ((wr.alloc (.cells #[.string ⟨#[]⟩, .string nmi, .string rsi] 73)).alloc (.cells #[.string ⟨#[]⟩, .string nmi, .string rsi] 110)).heap.size = wr.heap.size + 2 := by simp
      have h' : wr.heap.size + 2 <= g' := by rw [<- e]; exact h
      omega
    have hb5' := b10.out.set 2 (.slice (some ⟨g', 0, none⟩) (i + 1) c')
    simp only [List.setIfInBounds_toArray, List.set_cons_zero, List.set_cons_succ] at hb5'
    refine ⟨i + 1, _, rfl, by omega, hO10.set (Or.inr hT5') _ _, hb5', ?_, ?_⟩
    ·rw [hkt.out]
     exact ownsRow_setCell hrow'.out (by simp [Value.ownBlock]; omega) _
    ·intro k hk
     have : k = g' := by simpa [Value.ownBlock, eq_comm] using hk
     subst this
     exact hg'
  ·have hi2 : ¬ ((i : Int) < (kv.length : Int)) := by omega
   have hie : i = kv.length := by omega
   subst hie
   rw [List.take_length] at hrowr
   replace hOr := zz hOr
   replace hBr := zz hBr
   replace hrowr := zz hrowr
   replace hkr := zz hkr
   go_wp2
   go_ret2
   exact ⟨ev, rfl, hOr.out, hrowr.out, fun k hk => (hkr.out k hk).1⟩
theorem given_do (tk : Tk) (av : Value) (A : Nat -> Prop) (o l c : Int) (w : World) (ha : AttrV w A tk av) (hel : tk.el = true) :
  Calls Tryz.prog 31 #[.agg #[.int .i64 tk.kind, .string ⟨#[]⟩, .string tk.loc, av, .string tk.text, .int .i64 o, .int .i64 l, .int .i64 c]] w fun e w' => ∃ x, e = .returned (.tuple #[x, .bool true]) /\ Old w w' /\ GivenV w' w.heap.size x tk := by
 cases tk with
 | st nm kv =>
  refine (given_st (nameB nm) kv av o l c w ha.1 ha.2.2).mono ?_
  rintro e w' ⟨ev, rfl, h1, h2, h3⟩
  exact ⟨_, rfl, h1, ev, rfl, h2, h3⟩
 | en nm =>
  obtain rfl : av = _ := ha
  show Calls Tryz.prog 31 #[.agg #[.int .i64 2, .string ⟨#[]⟩, .string (nameB nm), .slice none 0 0, .string ⟨#[]⟩, .int .i64 o, .int .i64 l, .int .i64 c]] w _
  generalize hS : nameB nm = S at *
  replace hS := zz hS
  go_enter Tryz.func31, Tryz.ntmps31
  go_wp2
  go_ret2
  refine ⟨_, rfl, (((Fr.refl _ w).alloc _).alloc _), ?_⟩
  show Value.iface 112 (.agg #[.string ⟨#[]⟩, .string S]) = .iface 112 (.agg #[.string ⟨#[]⟩, .string (nameB nm)])
  rw [hS.out]
 | tx rs => cases hel
 | cm d => cases hel
 | pi nm d => cases hel
end
end Go.Proofs.YtepbbahdhhjibaaGreatDoor
