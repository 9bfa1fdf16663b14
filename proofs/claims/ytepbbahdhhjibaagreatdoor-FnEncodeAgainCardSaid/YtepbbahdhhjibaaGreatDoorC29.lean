/- own text -/
import Derived.Lib.SlBytesConst
import Derived.Test.YtepbbahdhhjibaaGreatDoorC26
import Derived.Test.YtepbbahdhhjibaaGreatDoorC28
namespace Go.Proofs.YtepbbahdhhjibaaGreatDoor
set_option linter.unusedSimpArgs false
set_option linter.unusedVariables false
set_option maxHeartbeats 4000000
set_option maxRecDepth 100000
set_option linter.unusedSectionVars false
section
open Go.RowKit
structure Ew (X : Px) (w0 : World) (v : Pv) (o : List UInt8) (w1 : World) : Prop where
 ex : ∃ va', Fr (fun x => x = X.P \/ X.E.own v.va x) w0 w1 /\ (∀ x, X.E.own va' x -> X.E.own v.va x \/ w0.heap.size <= x) /\ Blk w1 X.P (prA X ⟨va', v.pv, v.tv⟩ false) 103 /\ Wr X.E w1 va' o /\ X.P < w0.heap.size /\ ¬ X.E.own v.va X.P
theorem Ew.go {X : Px} {w0 w1 w2 : World} {v : Pv} {o2 : List UInt8} {va' va2 : Value} (f : Fr (fun x => x = X.P \/ X.E.own v.va x) w0 w1) (n : ∀ x, X.E.own va' x -> X.E.own v.va x \/ w0.heap.size <= x) (D : Blk w1 X.P (prA X ⟨va', v.pv, v.tv⟩ false) 103) (hP : X.P < w0.heap.size) (hPo : ¬ X.E.own v.va X.P)
  (s : WSt X.E w1 va' w2 va2) (k : Wr X.E w2 va2 o2) : Blk w2 X.P (prA X ⟨va2, v.pv, v.tv⟩ false) 103 /\ Ew X w0 v o2 (w2.setCell ⟨X.P, 13, none⟩ .nilIface) := by
 have hno : ∀ va3, (∀ x, X.E.own va3 x -> X.E.own v.va x \/ w0.heap.size <= x) -> ¬ X.E.own va3 X.P := fun va3 h e => (h _ e).elim hPo (fun h => by omega)
 have n2 : ∀ x, X.E.own va2 x -> X.E.own v.va x \/ w0.heap.size <= x := fun x hx => (s.own x hx).elim (n x) (fun h => .inr (Nat.le_trans f.size h))
 have D2 : Blk w2 X.P (prA X ⟨va2, v.pv, v.tv⟩ false) 103 := D.keep s.fr (hno _ n)
 have f2 : Fr (fun x => x = X.P) w2 (w2.setCell ⟨X.P, 13, none⟩ .nilIface) := (Fr.refl (fun x => x = X.P) w2).set (Or.inl rfl) _ _
 exact ⟨D2, va2, (f.trans s.fr (fun x hx => (n x hx).imp .inr id)).trans f2 (fun x hx => .inl (.inl hx)), n2, D2.set 13 .nilIface, k.keep f2 (fun x hx e => hno _ n2 (e ▸ hx)), hP, hPo⟩
theorem prA_cells {X : Px} {w : World} {v : Pv} (D : Blk w X.P (prA X v false) 103) : w.cell? ⟨X.P, 0, none⟩ = some (.pointer (some ⟨X.E.B, 0, none⟩)) /\ w.cell? ⟨X.P, 3, none⟩ = some (.string ⟨#[]⟩) /\ w.cell? ⟨X.P, 4, none⟩ = some (.string ⟨#[]⟩) /\ w.cell? ⟨X.P, 12, none⟩ = some (.bool false) /\ w.cell? ⟨X.P, 13, none⟩ = some .nilIface /\ ∀ i, w.frozen? ⟨X.P, i, none⟩ = false :=
 ⟨by rw [D.cell]; rfl, by rw [D.cell]; rfl, by rw [D.cell]; rfl, by rw [D.cell]; rfl, by rw [D.cell]; rfl, D.fz⟩
theorem Ew.drewN {X : Px} {w0 w1 : World} {v : Pv} {o : List UInt8} (h : Ew X w0 v o w1) (n : Nat) : Ew X w0 v o (w1.drewN n) := by
 obtain ⟨va', f, n', D, W, hP, hPo⟩ := h
 exact ⟨va', f.drewN n, n', D.keep ((Fr.refl (fun _ => False) w1).drewN n) (fun h => h), W.keep ((Fr.refl (fun _ => False) w1).drewN n) (fun _ _ h => h), hP, hPo⟩
section
variable {X : Px} {w0 w1 : World} {v : Pv} {o : List UInt8} (h : Ew X w0 v o w1)
include h
theorem Ew.byte (c : UInt8) (i : Int) (hi : i = c.toNat) (hl : o.length <= 1099511627776) : Calls Tryz.prog 61 #[.pointer (some ⟨X.P, 0, none⟩), .int .u8 i] w1 fun e w' => e = .returned .nilIface /\ Ew X w0 v (o ++ [c]) w' := by
 subst hi
 obtain ⟨va', f, n, D, W, hP, hPo⟩ := h
 obtain ⟨c0, _, _, c12, c13, _⟩ := prA_cells D
 have hc := (bwbyte X.E va' o c w1 W hl).mono (R' := fun e w2 => e = .returned .nilIface /\ w2.cell? ⟨X.P, 13, none⟩ = some .nilIface /\ w2.frozen? ⟨X.P, 13, none⟩ = false /\ Hid (Ew X w0 v (o ++ [c]) (w2.setCell ⟨X.P, 13, none⟩ .nilIface))) (by
  rintro e w2 ⟨rfl, va2, s, k⟩
  obtain ⟨h1, h2⟩ := Ew.go f n D hP hPo s k
  exact ⟨rfl, by rw [h1.cell]; rfl, h1.fz 13, h2⟩)
 clear f n D W
 go_enter Tryz.func61, Tryz.ntmps61
 go_wp2_with (go_at_call 109; refine hc.mono ?_; rintro e w2 ⟨rfl, k13, kf, k⟩)
 go_ret
 exact ⟨rfl, k.out⟩
theorem Ew.strl (l : List UInt8) (hl : o.length + l.length <= 1099511627776) : Calls Tryz.prog 56 #[.pointer (some ⟨X.P, 0, none⟩), .string ⟨l.toArray⟩] w1 fun e w' => (∃ q, e = .returned (.tuple #[q, .nilIface])) /\ Ew X w0 v (o ++ l) w' := by
 obtain ⟨va', f, n, D, W, hP, hPo⟩ := h
 obtain ⟨c0, _, _, c12, c13, _⟩ := prA_cells D
 have hsz : (⟨l.toArray⟩ : ByteArray).size = l.length := by rw [Lib.size_eq]
 have hc := (bwstr X.E va' o ⟨l.toArray⟩ w1 W (by rw [hsz]; exact hl)).mono (R' := fun e w2 => e = .returned (.tuple #[.int .i64 l.length, .nilIface]) /\ w2.cell? ⟨X.P, 13, none⟩ = some .nilIface /\ w2.frozen? ⟨X.P, 13, none⟩ = false /\ Hid (Ew X w0 v (o ++ l) (w2.setCell ⟨X.P, 13, none⟩ .nilIface))) (by
  rintro e w2 ⟨rfl, va2, s, k⟩
  obtain ⟨h1, h2⟩ := Ew.go f n D hP hPo s k
  exact ⟨by rw [hsz], by rw [h1.cell]; rfl, h1.fz 13, h2⟩)
 clear f n D W
 go_enter Tryz.func56, Tryz.ntmps56
 go_wp2_with (go_at_call 103; refine hc.mono ?_; rintro e w2 ⟨rfl, k13, kf, k⟩)
 go_quiet (fail)
 go_wp2
 go_ret2
 exact ⟨⟨_, rfl⟩, k.out.drewN _⟩
theorem Ew.indent (d : Int) : Calls Tryz.prog 96 #[.pointer (some ⟨X.P, 0, none⟩), .int .i64 d] w1 fun e w' => e = .returned (.tuple #[]) /\ w' = w1 := by
 obtain ⟨va', f, n, D, W, hP, hPo⟩ := h
 obtain ⟨_, c3, c4, _⟩ := prA_cells D
 clear f n D W
 go_enter Tryz.func96, Tryz.ntmps96
 go_wp2
 refine bodyPost_ret (results_none rfl _ _ _) rfl ?_
 exact ⟨rfl, rfl⟩
end
theorem pend (X : Px) (v : Pv) (out : List UInt8) (tags : List ByteArray) (nm : List Nat) (w : World) (hne : nb nm ≠ [])
  (h : Pr X w v false out (tags ++ [nameB nm])) (htags : tags.length <= 1000000) (hl0 : out.length + (nb nm).length + 100 <= 1099511627776) :
  Calls Tryz.prog 52 #[.pointer (some ⟨X.P, 0, none⟩), .agg #[.string ⟨#[]⟩, .string (nameB nm)]] w fun e w' => e = .returned .nilIface /\ ∃ v', PSt X w v w' v' /\ Pr X w' v' false (out ++ ([60, 47] ++ nb nm ++ [62])) tags := by
 unfold nameB at *
 generalize hl : nb nm = l at *
 have hie : l.isEmpty = false := by
  cases l with
  | nil => exact absurd rfl hne
  | cons a t => rfl
 obtain ⟨_, _, _, _, c11, c12, c13, _⟩ := h.cells
 have f11 := h.D.fz 11
 have htl : (tags ++ [(⟨l.toArray⟩ : ByteArray)]).length = tags.length + 1 := by simp
 have htg := h.tg
 rw [htl] at htg
 obtain ⟨g, cap, htv, hle, hc⟩ := ownsRow_some htg (by omega)
 have hgP : g ≠ X.P := (h.nt g (by rw [htv]; rfl)).1
 have hcl : (tagCells tags).length = tags.length * 2 := tagCells_len tags
 have g0 : w.cell? ⟨g, tags.length * 2, none⟩ = some (.string ⟨#[]⟩) := hc _ _ (by rw [tagCells_app, List.getElem?_append_right (by omega), hcl]; simp [tagCells])
 have g1 : w.cell? ⟨g, tags.length * 2 + 1, none⟩ = some (.string ⟨l.toArray⟩) := hc _ _ (by rw [tagCells_app, List.getElem?_append_right (by omega), hcl]; simp [tagCells])
 obtain ⟨n, hn⟩ : ∃ n, n = tags.length := ⟨_, rfl⟩
 rw [<- hn] at g0 g1 hle htags htv htg
 rw [htv] at c11
 obtain ⟨N, hN⟩ : ∃ N, N = n + 1 := ⟨_, rfl⟩
 rw [<- hN] at htv c11 hle htg
 have e1 : IntKind.i64.wrap (((N : Nat) : Int) - 1) = (n : Int) := by rw [IntWalk.i64_in _ (by omega)]; omega
 have e2 : (0 : Int) <= (n : Int) := by omega
 have e3 : (n : Int) < ((N : Nat) : Int) := by omega
 have e4 : (n : Int) <= (cap : Int) := by omega
 have e5 : (0 : Int) < ((N : Nat) : Int) := by omega
 have e6 : (((N : Nat) : Int) == 0) = false := by rw [beq_eq_false_iff_ne]; omega
 have hPw := h.D.lt
 have holdA : Old w (w.alloc (.cells #[.string ⟨#[]⟩, .string ⟨l.toArray⟩] 105)) := (Fr.refl _ w).alloc _
 replace c11 := holdA.cell c11
 replace c12 := holdA.cell c12
 replace c13 := holdA.cell c13
 replace g0 := holdA.cell g0
 replace g1 := holdA.cell g1
 have b0 := Blk.new w #[.string ⟨#[]⟩, .string ⟨l.toArray⟩] 105
 have t0 : (w.alloc (.cells #[.string ⟨#[]⟩, .string ⟨l.toArray⟩] 105)).cell? ⟨w.heap.size, 0, none⟩ = some (.string ⟨#[]⟩) := by rw [b0.cell]; rfl
 have t1 : (w.alloc (.cells #[.string ⟨#[]⟩, .string ⟨l.toArray⟩] 105)).cell? ⟨w.heap.size, 1, none⟩ = some (.string ⟨l.toArray⟩) := by rw [b0.cell]; rfl
 clear b0
 have hA2 : ∀ (k : Nat) (cs : Array Value), Old (w.alloc (.cells #[.string ⟨#[]⟩, .string ⟨l.toArray⟩] 105)) (((w.alloc (.cells #[.string ⟨#[]⟩, .string ⟨l.toArray⟩] 105)).drewN k).alloc (.cells cs 105)) := fun k cs => ((Fr.refl _ _).drewN k).alloc _
 have g2 : ∀ (k : Nat) (cs : Array Value), (((w.alloc (.cells #[.string ⟨#[]⟩, .string ⟨l.toArray⟩] 105)).drewN k).alloc (.cells cs 105)).cell? ⟨g, n * 2, none⟩ = some (.string ⟨#[]⟩) := fun k cs => (hA2 k cs).cell g0
 have g3 : ∀ (k : Nat) (cs : Array Value), (((w.alloc (.cells #[.string ⟨#[]⟩, .string ⟨l.toArray⟩] 105)).drewN k).alloc (.cells cs 105)).cell? ⟨g, n * 2 + 1, none⟩ = some (.string ⟨l.toArray⟩) := fun k cs => (hA2 k cs).cell g1
 clear hA2
 replace holdA := zz holdA
 replace h := zz h
 replace hl := zz hl
 replace htv := zz htv
 replace hN := zz hN
 replace hn := zz hn
 replace htg := zz htg
 clear hc hcl htl
 go_enter Tryz.func52, Tryz.ntmps52
 go_wp2
 go_quiet (fail)
 go_wp2
 go_cut [5] from 33 to 45 (fun u5 wx => u5 = .pointer (some ⟨w.heap.size + 1, 0, none⟩) /\ Old (w.alloc (.cells #[.string ⟨#[]⟩, .string ⟨l.toArray⟩] 105)) wx /\ Blk wx (w.heap.size + 1) #[.string ⟨#[]⟩, .string ⟨l.toArray⟩] 105)
 case first =>
  go_region_law (fail)
  all_goals go_wp2_with fail
  all_goals go_meet
  all_goals (
   refine ⟨rfl, ((Fr.refl _ _).drewN _).alloc _, ?_⟩
   have := Blk.new ((w.alloc (.cells #[.string ⟨#[]⟩, .string ⟨l.toArray⟩] 105)).drewN (nq + 1)) #[.string ⟨#[]⟩, .string ⟨l.toArray⟩] 105
   rw [show ((w.alloc (.cells #[.string ⟨#[]⟩, .string ⟨l.toArray⟩] 105)).drewN (nq + 1)).heap.size = w.heap.size + 1 by simp] at this
   exact this)
 case rest =>
  obtain ⟨rfl, hO, hB⟩ := hcut
  have k11 := hO.cell c11
  have kt0 := hO.cell t0
  have kt1 := hO.cell t1
  have kb0 : wc.cell? ⟨w.heap.size + 1, 0, none⟩ = some (.string ⟨#[]⟩) := by rw [hB.cell]; rfl
  have kb1 : wc.cell? ⟨w.heap.size + 1, 1, none⟩ = some (.string ⟨l.toArray⟩) := by rw [hB.cell]; rfl
  have hO2 : Old w wc := holdA.out.old hO
  have hDc := h.out.D.keep hO2 (fun h => h)
  have kf := hDc.fz 11
  clear c11 c12 c13 g0 g1 g2 g3 t0 t1
  have hPr := h.out
  obtain ⟨tv2, htv2⟩ : ∃ tv2, tv2 = Value.slice (some ⟨g, 0, none⟩) n cap := ⟨_, rfl⟩
  obtain ⟨W10, hW10⟩ : ∃ W10, W10 = wc.drew.setCell ⟨X.P, 11, none⟩ tv2 := ⟨_, rfl⟩
  have fW : Fr (fun x => x = X.P) wc W10 := by rw [hW10]; exact ((Fr.refl (fun x => x = X.P) wc).drew).set (Or.inl rfl) _ _
  have DW : Blk W10 X.P (prA X ⟨v.va, v.pv, tv2⟩ false) 103 := by
   rw [hW10]
   have := Blk.set (w := wc.drew) (hDc.keep ((Fr.refl (fun _ => False) wc).drew) (fun h => h)) 11 tv2
   exact this
  have f0 : Fr (fun x => x = X.P) w W10 := (Fr.of_old hO2).trans fW (fun x hx => .inl hx)
  have WW : Wr X.E W10 v.va out := hPr.W.keep f0 (fun x hx e => hPr.nP (e ▸ hx))
  have hE0 : Ew X W10 ⟨v.va, v.pv, tv2⟩ out W10 := ⟨v.va, Fr.refl _ _, fun x h => .inl h, DW, WW, Nat.lt_of_lt_of_le hPw f0.size, hPr.nP⟩
  have hwlt : w.heap.size < W10.heap.size := by
   have h1 := hB.lt
   have h2 := fW.size
   omega
  have hTb : Blk W10 w.heap.size #[.string ⟨#[]⟩, .string ⟨l.toArray⟩] 105 := ((Blk.new w #[.string ⟨#[]⟩, .string ⟨l.toArray⟩] 105).keep hO (fun h => h)).keep fW (by omega)
  have hTk : ∀ o w1, Ew X W10 ⟨v.va, v.pv, tv2⟩ o w1 -> w1.cell? ⟨w.heap.size, 1, none⟩ = some (.string ⟨l.toArray⟩) := fun o w1 h => by
   obtain ⟨va', f, _⟩ := h
   have := hTb.keep f (fun e => by
    rcases e with e | e
    ·omega
    ·have := hPr.W.lt _ e; omega)
   rw [this.cell]; rfl
  have h96 : Calls Tryz.prog 96 #[.pointer (some ⟨X.P, 0, none⟩), .int .i64 (-1)] (wc.drew.setCell ⟨X.P, 11, none⟩ (.slice (some ⟨g, 0, none⟩) n cap)) fun e w2 => e = .returned (.tuple #[]) /\ w2 = W10 := by
   rw [<- htv2, <- hW10]; exact hE0.indent (-1)
  have h61 : ∀ o w1 c i, Ew X W10 ⟨v.va, v.pv, tv2⟩ o w1 -> i = (UInt8.toNat c : Int) -> o.length <= 1099511627776 -> Calls Tryz.prog 61 #[.pointer (some ⟨X.P, 0, none⟩), .int .u8 i] w1 fun e w2 => e = .returned .nilIface /\ w2.cell? ⟨w.heap.size, 1, none⟩ = some (.string ⟨l.toArray⟩) /\ Hid (Ew X W10 ⟨v.va, v.pv, tv2⟩ (o ++ [c]) w2) := fun o w1 c i h hi hb => by
   refine (h.byte c i hi hb).mono ?_
   rintro e w2 ⟨rfl, k⟩
   exact ⟨rfl, hTk _ _ k, k⟩
  have h56 : ∀ o w1, Ew X W10 ⟨v.va, v.pv, tv2⟩ o w1 -> o.length + l.length <= 1099511627776 -> Calls Tryz.prog 56 #[.pointer (some ⟨X.P, 0, none⟩), .string ⟨l.toArray⟩] w1 fun e w2 => ∃ q, e = .returned (.tuple #[q, .nilIface]) /\ Hid (Ew X W10 ⟨v.va, v.pv, tv2⟩ (o ++ l) w2) := fun o w1 h hb => by
   refine (h.strl l hb).mono ?_
   rintro e w2 ⟨⟨q, rfl⟩, k⟩
   exact ⟨q, rfl, k⟩
  have hnl : (tags ++ [(⟨l.toArray⟩ : ByteArray)]).length = n + 1 := by rw [hn.out]; simp
  have h99 : ∀ o w1, Ew X W10 ⟨v.va, v.pv, tv2⟩ o w1 -> Calls Tryz.prog 99 #[.pointer (some ⟨X.P, 0, none⟩)] w1 fun e w2 => e = .returned (.tuple #[]) /\ Hid (∃ v', PSt X w v w2 v' /\ Pr X w2 v' false o tags) := fun o w1 hE => by
   obtain ⟨va', f, nw, D1, W1, _, _⟩ := hE
   have hpf0 := hPr.pf
   rw [hnl] at hpf0
   have f01 : Fr (fun x => x = X.P \/ X.E.own v.va x) w w1 := (f0.mono (fun x hx => .inl (.inl hx))).trans f (fun x hx => .inl hx)
   have hnot : ∀ k, k ≠ X.P /\ ¬ X.E.own v.va k -> ¬ (k = X.P \/ X.E.own v.va k) := fun k hk e => e.elim hk.1 hk.2
   have hpf1 : w1.ownsRow 0 9 1 v.pv (n + 1) (List.replicate (n + 1) (.string ⟨#[]⟩)) := ownsRow_frame hpf0 f01 (fun k hk => hnot k (hPr.np k hk))
   refine (ppop X ⟨va', v.pv, tv2⟩ n w1 htags D1 hpf1 (fun k hk => (hPr.np k hk).1)).mono ?_
   rintro e w2 ⟨rfl, pv', k1, k2, k3, k4⟩
   have f02 : Fr (fun x => x = X.P \/ X.E.own v.va x) w w2 := f01.trans k2 (fun x hx => .inl (.inl hx))
   have htg1 : w.ownsRow 0 105 2 tv2 n (tagCells tags) := by
    have h1 := htg.out
    rw [htv.out, hN.out, tagCells_app] at h1
    rw [htv2]
    exact ownsRow_pop h1 (by rw [tagCells_len, hn.out])
   have hwg : ∀ x, X.E.own va' x -> X.E.own v.va x \/ w.heap.size <= x := fun x hx => (nw x hx).imp id (fun h => Nat.le_trans f0.size h)
   have hE' : ∀ x, ¬ X.E.own v.va x -> x < w.heap.size -> ¬ X.E.own va' x := fun x h1 h2 h3 => (hwg x h3).elim h1 (fun h => by omega)
   have htv2o : ∀ k, tv2.ownBlock = some k -> v.tv.ownBlock = some k := fun k hk => by rw [htv.out]; rw [htv2] at hk; exact hk
   have hgl : ∀ k, v.tv.ownBlock = some k -> k < w.heap.size := fun k hk => ownsRow_lt hPr.tg hk
   refine ⟨rfl, ⟨va', pv', tv2⟩, ⟨f02.mono (fun x hx => .inl (hx.elim (fun h => .inl h) (fun h => .inr (.inl h)))), ?_⟩, ⟨k1, W1.keep k2 (fun x hx e => hE' X.P hPr.nP hPw (e ▸ hx)), ?_, ?_, hE' _ hPr.nP hPw, ?_, ?_⟩⟩
   ·rintro x (hx | hx | hx | hx)
    ·exact .inl (.inl hx)
    ·exact (hwg x hx).imp (fun h => .inr (.inl h)) id
    ·exact .inl (.inr (.inr (.inl (by rw [<- k4]; exact hx))))
    ·exact .inl (.inr (.inr (.inr (htv2o x hx))))
   ·rw [<- hn.out]; exact k3
   ·rw [<- hn.out]
    exact ownsRow_frame htg1 f02 (fun k hk => hnot k ⟨(hPr.nt k (htv2o k hk)).1, (hPr.nt k (htv2o k hk)).2.1⟩)
   ·intro k hk
    have hk' : v.pv.ownBlock = some k := by rw [<- k4]; exact hk
    exact ⟨(hPr.np k hk').1, hE' k (hPr.np k hk').2 (ownsRow_lt hPr.pf hk')⟩
   ·intro k hk
    have hk' := htv2o k hk
    refine ⟨(hPr.nt k hk').1, hE' k (hPr.nt k hk').2.1 (hgl k hk'), fun e => (hPr.nt k hk').2.2 (by rw [<- k4]; exact e)⟩
  replace hE0 := zz hE0
  replace h61 := zz h61
  replace h56 := zz h56
  replace h99 := zz h99
  replace hW10 := zz hW10
  replace htv2 := zz htv2
  clear fW DW f0 WW hTb hPr hO hO2 hDc hB holdA hnl
  go_wp2
  refine wp_region_tail 14 [] [0, 1, 2, 3, 4, 5, 6, 7, 8, 9, 10, 11, 12, 13] (by kernel_rfl) (by kernel_rfl) (fun _ _ _ _ _ h => h) ?_
  simp only [List.filterMap_cons, List.filterMap_nil, List.getElem?_toArray, List.getElem?_cons_zero, List.getElem?_cons_succ, List.nil_append, List.cons_append, List.drop_succ_cons, List.drop_zero]
  repeat still_step
  refine wpStill_nil ?_
  go_wp2_with (first
   | (go_at_call 96; refine h96.mono ?_; rintro e w2 ⟨rfl, rfl⟩)
   | (go_at_call 61; refine (h61.out _ _ 60 60 hE0.out rfl (by omega)).mono ?_; rintro e w2 ⟨rfl, y1, k1⟩; clear hE0)
   | (go_at_call 61; refine (h61.out _ _ 47 47 k1.out rfl (by simp only [List.length_append, List.length_cons, List.length_nil]; omega)).mono ?_; rintro e w3 ⟨rfl, y2, k2⟩; clear k1 y1)
   | (go_at_call 56; refine (h56.out _ _ k2.out (by simp only [List.length_append, List.length_cons, List.length_nil]; omega)).mono ?_; rintro e w4 ⟨q, rfl, k3⟩; clear k2 y2)
   | (go_at_call 61; refine (h61.out _ _ 62 62 k3.out rfl (by simp only [List.length_append, List.length_cons, List.length_nil]; omega)).mono ?_; rintro e w5 ⟨rfl, y4, k4⟩; clear k3)
   | (go_at_call 99; refine (h99.out _ _ k4.out).mono ?_; rintro e w6 ⟨rfl, k5⟩; clear k4))
  go_ret
  have := k5.out
  simp only [List.append_assoc, List.cons_append, List.nil_append] at this ⊢
  exact ⟨rfl, this⟩
end
section
open Go.RowKit
theorem lies_mark3 (w : World) (fr : Nat × Nat) (b : Nat) (hb : b = w.heap.size) (a0 a1 a2 : UInt8) : Lies (w.alloc (.cells #[.int .u8 a0.toNat, .int .u8 a1.toNat, .int .u8 a2.toNat] 5 fr)) b 0 [a0, a1, a2] := by
 subst hb
 intro j c hj
 rw [Nat.zero_add, World.cell?_alloc_mark]
 match j, hj with
 | 0, hj => (simp at hj; subst hj; rfl)
 | 1, hj => (simp at hj; subst hj; rfl)
 | 2, hj => (simp at hj; subst hj; rfl)
theorem lies_mark2 (w : World) (fr : Nat × Nat) (b : Nat) (hb : b = w.heap.size) (a0 a1 : UInt8) : Lies (w.alloc (.cells #[.int .u8 a0.toNat, .int .u8 a1.toNat] 5 fr)) b 0 [a0, a1] := by
 subst hb
 intro j c hj
 rw [Nat.zero_add, World.cell?_alloc_mark]
 match j, hj with
 | 0, hj => (simp at hj; subst hj; rfl)
 | 1, hj => (simp at hj; subst hj; rfl)
def EncP (X : Px) (w : World) (v : Pv) (o : List UInt8) (tags : List ByteArray) (w' : World) : Prop := ∃ v', PSt X w v w' v' /\ Pr X w' v' false o tags
theorem EncP.trans {X : Px} {w w1 w2 : World} {v v1 : Pv} {o : List UInt8} {tags : List ByteArray} (s : PSt X w v w1 v1) (h : EncP X w1 v1 o tags w2) : EncP X w v o tags w2 := by
 obtain ⟨v', h1, h2⟩ := h
 exact ⟨v', s.trans h1, h2⟩
theorem enc_cached {X : Px} {w w1 : World} {v : Pv} {o : List UInt8} {tags : List ByteArray} (h : EncP X w v o tags w1) : Calls Tryz.prog 58 #[.pointer (some ⟨X.P, 0, none⟩)] w1 fun e w2 => e = .returned .nilIface /\ Hid (EncP X w v o tags w2) := by
 obtain ⟨v1, h1, h2⟩ := h
 refine (pcached X v1 o tags w1 h2).mono ?_
 rintro e w2 ⟨rfl, va', k1, k2⟩
 rw [List.append_nil] at k2
 exact ⟨rfl, _, h1.trans k1, k2⟩
section
variable (X : Px) (v : Pv) (out : List UInt8) (tags : List ByteArray) (w : World) (h : Pr X w v false out tags) (hU : UT w) (h5 : ∀ x, X.own v x -> 5 <= x) (h5w : 5 <= w.heap.size) (htags : tags.length <= 1000000)
include h htags
theorem enc_en (nm : List Nat) (hne : nb nm ≠ []) (tags0 : List ByteArray) (ht : tags = tags0 ++ [nameB nm]) (hl0 : out.length + (nb nm).length + 100 <= 1099511627776) :
  Calls Tryz.prog 33 #[.pointer (some ⟨X.P, 0, none⟩), .iface 112 (.agg #[.string ⟨#[]⟩, .string (nameB nm)])] w fun e w' => e = .returned .nilIface /\ EncP X w v (out ++ tkOut (.en nm)) tags0 w' := by
 have ta1 := ta_112_108
 have ta2 := ta_112_112
 subst ht
 have hc : ∀ w1, Old w w1 -> Calls Tryz.prog 52 #[.pointer (some ⟨X.P, 0, none⟩), .agg #[.string ⟨#[]⟩, .string (nameB nm)]] w1 fun e w' => e = .returned .nilIface /\ Hid (EncP X w v (out ++ tkOut (.en nm)) tags0 w') := fun w1 ho => by
  refine (pend X v out tags0 nm w1 hne (h.old ho) (by simp at htags; omega) hl0).mono ?_
  rintro e w' ⟨rfl, v', k1, k2⟩
  exact ⟨rfl, v', (PSt.ofOld v ho).trans k1, k2⟩
 replace hc := zz hc
 clear h htags
 go_enter Tryz.func33, Tryz.ntmps33
 go_wp2_with (first
  | (go_at_call 52; refine (hc.out _ (by exact (Fr.refl _ w).alloc _)).mono ?_; rintro e w1 ⟨rfl, k1⟩)
  | (go_at_call 58; refine (enc_cached k1.out).mono ?_; rintro e w2 ⟨rfl, k2⟩))
 go_ret
 exact ⟨rfl, k2.out⟩
include hU h5 h5w
theorem enc_st (nm : List Nat) (kv : List (List Nat × List Nat)) (av : Value) (hne : nb nm ≠ []) (hkv : w.ownsRow 0 110 3 av kv.length (kvCells kv)) (hAo : ∀ k, av.ownBlock = some k -> ¬ X.own v k) (hkn : kv.length <= 1000000) (hnm : ∀ x ∈ kv, nb x.1 ≠ []) (hvl : ∀ x ∈ kv, (∀ r ∈ x.2, isCh r = true) /\ (nb x.2).length <= 1000000000)
  (hl0 : out.length + (startOut nm kv).length + 6 * (kv.flatMap fun x => nb x.2).length + 100 <= 1099511627776) :
  Calls Tryz.prog 33 #[.pointer (some ⟨X.P, 0, none⟩), .iface 108 (.agg #[.string ⟨#[]⟩, .string (nameB nm), av])] w fun e w' => e = .returned .nilIface /\ EncP X w v (out ++ tkOut (.st nm kv)) (tags ++ [nameB nm]) w' := by
 have ta1 := ta_108_108
 have hpa : ∃ pa na ca, av = .slice pa na ca := by
  rcases hkv.2 with ⟨h1, _⟩ | ⟨g, cap, cur, h1, _⟩
  ·exact ⟨_, _, _, h1⟩
  ·exact ⟨_, _, _, h1⟩
 obtain ⟨pa, na, ca, rfl⟩ := hpa
 have hc : Calls Tryz.prog 51 #[.pointer (some ⟨X.P, 0, none⟩), .pointer (some ⟨w.heap.size, 0, none⟩)] (w.alloc (.cells #[.string ⟨#[]⟩, .string (nameB nm), .slice pa na ca] 108)) fun e w' => e = .returned .nilIface /\ Hid (EncP X w v (out ++ tkOut (.st nm kv)) (tags ++ [nameB nm]) w') := by
  have ho : Old w (w.alloc (.cells #[.string ⟨#[]⟩, .string (nameB nm), .slice pa na ca] 108)) := (Fr.refl _ w).alloc _
  refine (pstart X v out tags nm kv w.heap.size (.slice pa na ca) _ hne (Blk.new w _ _) (fun hx => by have := h.lt _ hx; omega) (ownsRow_frame hkv ho (fun _ _ h => h)) hAo hkn hnm hvl (hU.fr ho (fun h => h) (fun h => h)) h5 (Nat.le_trans h5w ho.size) (h.old ho) htags hl0).mono ?_
  rintro e w' ⟨rfl, v', k1, k2⟩
  exact ⟨rfl, v', (PSt.ofOld v ho).trans k1, k2⟩
 replace hc := zz hc
 clear h htags hkv hAo hkn hnm hvl hl0 hU h5 h5w
 go_enter Tryz.func33, Tryz.ntmps33
 go_wp2_with (first
  | (go_at_call 51; refine hc.out.mono ?_; rintro e w1 ⟨rfl, k1⟩)
  | (go_at_call 58; refine (enc_cached k1.out).mono ?_; rintro e w2 ⟨rfl, k2⟩))
 go_ret
 exact ⟨rfl, k2.out⟩
theorem enc_tx (rs : List Nat) (g cap n : Nat) (hn : n = (nb rs).length) (hrs : ∀ r ∈ rs, isCh r = true) (hcap : n <= cap) (hL : Lies w g 0 (nb rs)) (hg : ¬ X.own v g) (hgw : g < w.heap.size) (hlen : (nb rs).length <= 1000000000) (hl : out.length + 6 * (nb rs).length + 10 <= 1099511627776) :
  Calls Tryz.prog 33 #[.pointer (some ⟨X.P, 0, none⟩), .iface 113 (.slice (some ⟨g, 0, none⟩) n cap)] w fun e w' => e = .returned .nilIface /\ EncP X w v (out ++ tkOut (.tx rs)) tags w' := by
 have ta1 := ta_113_108'
 have ta2 := ta_113_112'
 have ta3 := ta_113_113'
 have hc : Calls Tryz.prog 53 #[.iface 124 (.pointer (some ⟨X.P, 0, none⟩)), .slice (some ⟨g, 0, none⟩) n cap, .bool false] w fun e w' => e = .returned .nilIface /\ Hid (EncP X w v (out ++ tkOut (.tx rs)) tags w') := by
  subst hn
  refine (pesctext X v out tags rs w hrs g 0 cap hcap hL hg hgw hlen hU h5 h5w h hl).mono ?_
  rintro e w' ⟨rfl, va', k1, k2⟩
  exact ⟨rfl, _, k1, k2⟩
 replace hc := zz hc
 clear h htags hn hcap hL hg hgw hlen hl hU h5 h5w hrs
 go_enter Tryz.func33, Tryz.ntmps33
 go_wp2_with (first
  | (go_at_call 53; refine hc.out.mono ?_; rintro e w1 ⟨rfl, k1⟩)
  | (go_at_call 58; refine (enc_cached k1.out).mono ?_; rintro e w2 ⟨rfl, k2⟩))
 go_ret
 exact ⟨rfl, k2.out⟩
omit hU h5 h5w htags in
theorem EncP.str {o : List UInt8} {w1 : World} (k : EncP X w v o tags w1) (l : List UInt8) (hl : o.length + l.length <= 1099511627776) : Calls Tryz.prog 56 #[.pointer (some ⟨X.P, 0, none⟩), .string ⟨l.toArray⟩] w1 fun e w2 => ∃ q, e = .returned (.tuple #[q, .nilIface]) /\ Hid (EncP X w v (o ++ l) tags w2) := by
 obtain ⟨v1, h1, h2⟩ := k
 refine (pstr X v1 o tags w1 h2 ⟨l.toArray⟩ (by rw [Lib.size_eq]; exact hl)).mono ?_
 rintro e w2 ⟨rfl, va', k1, k2⟩
 exact ⟨_, rfl, _, h1.trans k1, k2⟩
omit hU h5 h5w htags in
theorem EncP.wr {o : List UInt8} {w1 : World} (k : EncP X w v o tags w1) (l : List UInt8) (g m cap : Nat) (hm : m = l.length) (hmc : m <= cap) (hL : Lies w g 0 l) (hg : ¬ X.own v g) (hgw : g < w.heap.size) (hl : o.length + m <= 1099511627776) : Calls Tryz.prog 57 #[.pointer (some ⟨X.P, 0, none⟩), .slice (some ⟨g, 0, none⟩) m cap] w1 fun e w2 => ∃ q, e = .returned (.tuple #[q, .nilIface]) /\ Hid (EncP X w v (o ++ l) tags w2) := by
 obtain ⟨v1, h1, h2⟩ := k
 refine (pwrite X v1 o tags w1 h2 l g 0 m cap hm hmc (hL.keep h1.fr hg) (Px.own_no h1 hg hgw) (Nat.lt_of_lt_of_le hgw h1.fr.size) hl).mono ?_
 rintro e w2 ⟨rfl, va', k1, k2⟩
 exact ⟨_, rfl, _, h1.trans k1, k2⟩
omit hU h5 h5w htags in
theorem EncP.byte {o : List UInt8} {w1 : World} (k : EncP X w v o tags w1) (c : UInt8) (i : Int) (hi : i = c.toNat) (hl : o.length <= 1099511627776) : Calls Tryz.prog 61 #[.pointer (some ⟨X.P, 0, none⟩), .int .u8 i] w1 fun e w2 => e = .returned .nilIface /\ Hid (EncP X w v (o ++ [c]) tags w2) := by
 subst hi
 obtain ⟨v1, h1, h2⟩ := k
 refine (pbyte X v1 o tags w1 h2 c hl).mono ?_
 rintro e w2 ⟨rfl, va', k1, k2⟩
 exact ⟨rfl, _, h1.trans k1, k2⟩
theorem enc_cm (d : List UInt8) (g cap n : Nat) (hn : n = d.length) (hcap : n <= cap) (hL : Lies w g 0 d) (hg : ¬ X.own v g) (hgw : g < w.heap.size) (hlen : n <= 1000000000) (hno : ∀ i, i + 3 <= n -> ((d.drop i).take 3 == [45, 45, 62]) = false) (hl : out.length + n + 10 <= 1099511627776) :
  Calls Tryz.prog 33 #[.pointer (some ⟨X.P, 0, none⟩), .iface 114 (.slice (some ⟨g, 0, none⟩) n cap)] w fun e w' => e = .returned .nilIface /\ EncP X w v (out ++ tkOut (.cm d)) tags w' := by
 have hcv := Lib.run_convert_bytes_const (P := Tryz.prog) w 56 5 #[.int .u8 45, .int .u8 45, .int .u8 62] 3 3 Tryz.underlying56 Tryz.underlying5
 have ta1 := ta_114_108'
 have ta2 := ta_114_112'
 have ta3 := ta_114_113'
 have ta4 := ta_114_114'
 have hc : ∀ w1 b, Old w w1 -> Lies w1 b 0 [45, 45, 62] -> Calls Tryz.prog 54 #[.slice (some ⟨g, 0, none⟩) n cap, .slice (some ⟨b, 0, none⟩) 3 3] w1 fun e w' => e = .returned (.bool false) /\ Hid (EncP X w v out tags w') := fun w1 b ho hb => by
  refine (bcontains_do d [45, 45, 62] g 0 n cap b 0 3 w1 hn rfl hcap (by omega) (by omega) (hL.old ho) hb hno).mono ?_
  rintro e w' ⟨rfl, j, rfl⟩
  exact ⟨rfl, v, PSt.ofOld v (ho.drewN j), h.old (ho.drewN j)⟩
 have h56 := fun o w1 l k hl => EncP.str X v out tags w h (o := o) (w1 := w1) k l hl
 have h57 := fun o w1 k hl => EncP.wr X v out tags w h (o := o) (w1 := w1) k d g n cap hn hcap hL hg hgw hl
 replace hc := zz hc
 replace h56 := zz h56
 replace h57 := zz h57
 obtain ⟨L, hLo⟩ : ∃ L, L = out.length := ⟨_, rfl⟩
 rw [<- hLo] at hl
 replace hLo := zz hLo
 replace hn := zz hn
 clear h htags hL hg hgw hU h5 h5w hno
 go_enter Tryz.func33, Tryz.ntmps33
 go_wp2_with (first
  | (go_at_call 54; refine (hc.out _ _ (by exact (Fr.refl _ w).alloc _) (lies_mark3 w _ _ rfl 45 45 62)).mono ?_; rintro e w1 ⟨rfl, k1⟩)
  | (go_at_call 56; refine (h56.out _ _ [60, 33, 45, 45] k1.out (by have := hLo.out; simp only [List.length_cons, List.length_nil]; omega)).mono ?_; rintro e w2 ⟨q2, rfl, k2⟩; clear k1)
  | (go_at_call 57; refine (h57.out _ _ k2.out (by have := hLo.out; simp only [List.length_append, List.length_cons, List.length_nil]; omega)).mono ?_; rintro e w3 ⟨q3, rfl, k3⟩; clear k2)
  | (go_at_call 56; refine (h56.out _ _ [45, 45, 62] k3.out (by have := hLo.out; have := hn.out; simp only [List.length_append, List.length_cons, List.length_nil]; omega)).mono ?_; rintro e w4 ⟨q4, rfl, k4⟩; clear k3)
  | (go_at_call 58; refine (enc_cached k4.out).mono ?_; rintro e w5 ⟨rfl, k5⟩))
 go_ret
 have := k5.out
 simp only [List.append_assoc] at this
 simp only [tkOut, List.append_assoc]
 exact ⟨rfl, this⟩
theorem enc_pi (nm : List Nat) (hnm : NameOk nm) (hxml : nb nm ≠ [120, 109, 108]) (hnl : (nb nm).length <= 1000000000) (d : List UInt8) (g cap n : Nat) (hn : n = d.length) (hcap : n <= cap) (hL : Lies w g 0 d) (hg : ¬ X.own v g) (hgw : g < w.heap.size) (hlen : n <= 1000000000) (hno : ∀ i, i + 2 <= n -> ((d.drop i).take 2 == [63, 62]) = false) (hl : out.length + (nb nm).length + n + 10 <= 1099511627776) :
  Calls Tryz.prog 33 #[.pointer (some ⟨X.P, 0, none⟩), .iface 116 (.agg #[.string (nameB nm), .slice (some ⟨g, 0, none⟩) n cap])] w fun e w' => e = .returned .nilIface /\ EncP X w v (out ++ tkOut (.pi nm d)) tags w' := by
 have ta1 := ta_116_108'
 have ta2 := ta_116_112'
 have ta3 := ta_116_113'
 have ta4 := ta_116_114'
 have ta5 := ta_116_116'
 obtain ⟨r, t, hrt, hr, ht⟩ := hnm.ne
 unfold nameB
 have hx2 : (nb nm == [120, 109, 108]) = false := by rw [beq_eq_false_iff_ne]; exact hxml
 obtain ⟨W1, hW1⟩ : ∃ W1, W1 = w.alloc (.cells #[.string ⟨(nb nm).toArray⟩, .slice (some ⟨g, 0, none⟩) n cap] 116) := ⟨_, rfl⟩
 have hO1 : Old w W1 := by rw [hW1]; exact (Fr.refl _ w).alloc _
 have hB1 : Blk W1 w.heap.size #[.string ⟨(nb nm).toArray⟩, .slice (some ⟨g, 0, none⟩) n cap] 116 := by rw [hW1]; exact Blk.new w _ _
 have hT : w.heap.size < W1.heap.size := hB1.lt
 have hTno : ∀ x, X.own v x -> x ≠ w.heap.size := fun x hx => by have := h.lt x hx; omega
 have hcl : ∀ w1, Old W1 w1 -> w1.cell? ⟨w.heap.size, 0, none⟩ = some (.string ⟨(nb nm).toArray⟩) /\ w1.cell? ⟨w.heap.size, 1, none⟩ = some (.slice (some ⟨g, 0, none⟩) n cap) := fun w1 ho => by
  have := hB1.keep ho (fun h => h)
  exact ⟨by rw [this.cell]; rfl, by rw [this.cell]; rfl⟩
 have hce : ∀ o w1, EncP X W1 v o tags w1 -> w1.cell? ⟨w.heap.size, 0, none⟩ = some (.string ⟨(nb nm).toArray⟩) /\ w1.cell? ⟨w.heap.size, 1, none⟩ = some (.slice (some ⟨g, 0, none⟩) n cap) := fun o w1 hk => by
  obtain ⟨v', h1, h2⟩ := hk
  have := hB1.keep h1.fr (fun hx => hTno _ hx rfl)
  exact ⟨by rw [this.cell]; rfl, by rw [this.cell]; rfl⟩
 have h60 : Calls Tryz.prog 60 #[.string ⟨(nb nm).toArray⟩] W1 fun e w1 => e = .returned (.bool true) /\ (w1.cell? ⟨w.heap.size, 0, none⟩ = some (.string ⟨(nb nm).toArray⟩) /\ w1.cell? ⟨w.heap.size, 1, none⟩ = some (.slice (some ⟨g, 0, none⟩) n cap)) /\ Hid (Old W1 w1) := by
  have := isNameStr_do r t W1 hr ht (hU.fr hO1 (fun h => h) (fun h => h)) (by rw [<- hrt]; omega)
  rw [<- hrt] at this
  refine this.mono ?_
  rintro e w1 ⟨rfl, k⟩
  exact ⟨rfl, hcl _ k, k⟩
 have h54 : ∀ w1 b, Old W1 w1 -> Lies w1 b 0 [63, 62] -> Calls Tryz.prog 54 #[.slice (some ⟨g, 0, none⟩) n cap, .slice (some ⟨b, 0, none⟩) 2 2] w1 fun e w' => e = .returned (.bool false) /\ Hid (EncP X W1 v out tags w') := fun w1 b ho hb => by
  refine (bcontains_do d [63, 62] g 0 n cap b 0 2 w1 hn rfl hcap (by omega) (by omega) ((hL.old hO1).old ho) hb hno).mono ?_
  rintro e w' ⟨rfl, j, rfl⟩
  exact ⟨rfl, v, PSt.ofOld v (ho.drewN j), (h.old hO1).old (ho.drewN j)⟩
 have h56 : ∀ o w1 l, EncP X W1 v o tags w1 -> o.length + l.length <= 1099511627776 -> Calls Tryz.prog 56 #[.pointer (some ⟨X.P, 0, none⟩), .string ⟨l.toArray⟩] w1 fun e w2 => ∃ q, e = .returned (.tuple #[q, .nilIface]) /\ (w2.cell? ⟨w.heap.size, 0, none⟩ = some (.string ⟨(nb nm).toArray⟩) /\ w2.cell? ⟨w.heap.size, 1, none⟩ = some (.slice (some ⟨g, 0, none⟩) n cap)) /\ Hid (EncP X W1 v (o ++ l) tags w2) := fun o w1 l k hl => by
  refine (EncP.str X v out tags W1 (h.old hO1) k l hl).mono ?_
  rintro e w2 ⟨q, rfl, k2⟩
  exact ⟨q, rfl, hce _ _ k2.out, k2⟩
 have h57 : ∀ o w1, EncP X W1 v o tags w1 -> o.length + n <= 1099511627776 -> Calls Tryz.prog 57 #[.pointer (some ⟨X.P, 0, none⟩), .slice (some ⟨g, 0, none⟩) n cap] w1 fun e w2 => ∃ q, e = .returned (.tuple #[q, .nilIface]) /\ Hid (EncP X W1 v (o ++ d) tags w2) := fun o w1 k hl => EncP.wr X v out tags W1 (h.old hO1) k d g n cap hn hcap (hL.old hO1) hg (by omega) hl
 have h61 : ∀ o w1 c i, EncP X W1 v o tags w1 -> i = (UInt8.toNat c : Int) -> o.length <= 1099511627776 -> Calls Tryz.prog 61 #[.pointer (some ⟨X.P, 0, none⟩), .int .u8 i] w1 fun e w2 => e = .returned .nilIface /\ (w2.cell? ⟨w.heap.size, 0, none⟩ = some (.string ⟨(nb nm).toArray⟩) /\ w2.cell? ⟨w.heap.size, 1, none⟩ = some (.slice (some ⟨g, 0, none⟩) n cap)) /\ Hid (EncP X W1 v (o ++ [c]) tags w2) := fun o w1 c i k hi hl => by
  refine (EncP.byte X v out tags W1 (h.old hO1) k c i hi hl).mono ?_
  rintro e w2 ⟨rfl, k2⟩
  exact ⟨rfl, hce _ _ k2.out, k2⟩
 have hfin : ∀ o w1, EncP X W1 v o tags w1 -> EncP X w v o tags w1 := fun o w1 hk => hk.trans (PSt.ofOld v hO1)
 have hcv : ∀ w1 : World, (convert 56 56 (.slice (some ⟨w1.heap.size, 0, none⟩) 2 2)).run Tryz.prog (w1.alloc (.cells #[.int .u8 63, .int .u8 62] 5)) = .ok (.slice (some ⟨w1.heap.size, 0, none⟩) 2 2) (w1.alloc (.cells #[.int .u8 63, .int .u8 62] 5 (2, 3))) := fun w1 => Lib.run_convert_bytes_const (P := Tryz.prog) w1 56 5 #[.int .u8 63, .int .u8 62] 2 2 Tryz.underlying56 Tryz.underlying5
 have hl2 : ∀ w1 : World, Lies (w1.alloc (.cells #[.int .u8 63, .int .u8 62] 5 (2, 3))) w1.heap.size 0 [63, 62] := fun w1 => lies_mark2 w1 _ _ rfl 63 62
 have hk2 : ∀ w1, Old W1 w1 -> (w1.alloc (.cells #[.int .u8 63, .int .u8 62] 5)).cell? ⟨w.heap.size, 1, none⟩ = some (.slice (some ⟨g, 0, none⟩) n cap) := fun w1 ho => (hcl _ (ho.alloc _)).2
 replace h54 := zz h54
 replace h56 := zz h56
 replace h57 := zz h57
 replace h61 := zz h61
 replace hfin := zz hfin
 replace hce := zz hce
 replace hl2 := zz hl2
 have z := hcl W1 (Fr.refl _ _)
 have hout : out ++ tkOut (.pi nm d) = out ++ ([60, 63] ++ nb nm ++ (if d = [] then [] else 32 :: d) ++ [63, 62]) := rfl
 rw [hout]
 have hrow : n = 0 /\ d = [] \/ (0 < (n : Int)) /\ d ≠ [] := by
  cases d with
  | nil => exact .inl ⟨hn, rfl⟩
  | cons a b => right; simp at hn; exact ⟨by omega, by simp⟩
 clear hL hno hcl hO1 hB1 hTno h hU h5 h5w hnm hxml hrt ht hr hg hgw htags hk2
 replace hcv := zz hcv
 subst hW1
 have hcv' := hcv.out
 generalize nb nm = N at *
 replace hn := zz hn
 obtain ⟨L, hL⟩ : ∃ L, L = out.length := ⟨_, rfl⟩
 rw [<- hL] at hl
 replace hL := zz hL
 rcases hrow with ⟨rfl, rfl⟩ | ⟨h0, hd⟩
 ·rw [if_pos rfl]
  go_enter Tryz.func33, Tryz.ntmps33
  go_wp2_with (first
   | (go_at_call 60; refine h60.mono ?_; rintro e w1 ⟨rfl, ⟨z0, z1⟩, k0⟩)
   | (go_at_call 54; refine (h54.out _ _ (k0.out.alloc _) (hl2.out _)).mono ?_; rintro e w2 ⟨rfl, k1⟩)
   | (go_at_call 56; refine (h56.out _ _ [60, 63] k1.out (by have := hL.out; simp only [List.length_append, List.length_cons, List.length_nil]; omega)).mono ?_; rintro e w3 ⟨q3, rfl, ⟨y0, y1⟩, k2⟩; clear k1)
   | (go_at_call 56; refine (h56.out _ _ N k2.out (by have := hL.out; simp only [List.length_append, List.length_cons, List.length_nil]; omega)).mono ?_; rintro e w4 ⟨q4, rfl, ⟨x0, x1⟩, k3⟩; clear k2)
   | (go_at_call 56; refine (h56.out _ _ [63, 62] k3.out (by have := hL.out; simp only [List.length_append, List.length_cons, List.length_nil]; omega)).mono ?_; rintro e w5 ⟨q5, rfl, ⟨v0, v1⟩, k4⟩; clear k3)
   | (go_at_call 58; refine (enc_cached k4.out).mono ?_; rintro e w6 ⟨rfl, k5⟩))
  go_ret
  have := hfin.out _ _ k5.out
  simp only [List.append_assoc, List.nil_append] at this ⊢
  exact ⟨rfl, this⟩
 ·rw [if_neg hd]
  go_enter Tryz.func33, Tryz.ntmps33
  go_wp2_with (first
   | (go_at_call 60; refine h60.mono ?_; rintro e w1 ⟨rfl, ⟨z0, z1⟩, k0⟩)
   | (go_at_call 54; refine (h54.out _ _ (k0.out.alloc _) (hl2.out _)).mono ?_; rintro e w2 ⟨rfl, k1⟩)
   | (go_at_call 56; refine (h56.out _ _ [60, 63] k1.out (by have := hL.out; simp only [List.length_append, List.length_cons, List.length_nil]; omega)).mono ?_; rintro e w3 ⟨q3, rfl, ⟨y0, y1⟩, k2⟩; clear k1)
   | (go_at_call 56; refine (h56.out _ _ N k2.out (by have := hL.out; simp only [List.length_append, List.length_cons, List.length_nil]; omega)).mono ?_; rintro e w4 ⟨q4, rfl, ⟨x0, x1⟩, k3⟩; clear k2)
   | (go_at_call 61; refine (h61.out _ _ 32 32 k3.out rfl (by have := hL.out; simp only [List.length_append, List.length_cons, List.length_nil]; omega)).mono ?_; rintro e w5 ⟨rfl, ⟨v0, v1⟩, k4⟩; clear k3)
   | (go_at_call 57; refine (h57.out _ _ k4.out (by have := hL.out; simp only [List.length_append, List.length_cons, List.length_nil]; omega)).mono ?_; rintro e w6 ⟨q6, rfl, k5⟩; clear k4)
   | (go_at_call 56; refine (h56.out _ _ [63, 62] k5.out (by have := hL.out; have := hn.out; simp only [List.length_append, List.length_cons, List.length_nil]; omega)).mono ?_; rintro e w7 ⟨q7, rfl, ⟨u0, u1⟩, k6⟩; clear k5)
   | (go_at_call 58; refine (enc_cached k6.out).mono ?_; rintro e w8 ⟨rfl, k7⟩))
  go_ret
  have := hfin.out _ _ k7.out
  simp only [List.append_assoc, List.cons_append, List.nil_append] at this ⊢
  exact ⟨rfl, this⟩
end
end
end Go.Proofs.YtepbbahdhhjibaaGreatDoor
