/- own text -/
import Derived.Test.YtepbbahdhhjibaaGreatDoorD15
namespace Go.Proofs.YtepbbahdhhjibaaGreatDoor
set_option linter.unusedSimpArgs false
set_option linter.unusedVariables false
set_option maxHeartbeats 8000000
set_option maxRecDepth 1000000
section
open Go.RowKit
theorem run_lookup_empty (w : World) (m clk : Nat) (s : ByteArray) (hm : w.heap[m]? = some (.map #[] clk)) :
  (Instr.lookup 98 (.map (some m)) (.string s) true).run Tryz.prog w = .ok (.tuple #[.string ⟨#[]⟩, .bool false]) w := by
 have hz : (zeroValue 9).run Tryz.prog w = .ok (.string ⟨#[]⟩) w := by kernel_rfl
 have hck : (Instr.checkKey true 10000 9 (.string s)).run Tryz.prog w = .ok () w := by kernel_rfl
 have hfk : (Instr.findKey 9 (.string s) []).run Tryz.prog w = .ok none w := by kernel_rfl
 have hg : (getObj m).run Tryz.prog w = .ok (.map #[] clk) w := by simp [getObj, Sem.run, hm]
 simp [Instr.lookup, run_underlying Tryz.underlying98, hg, hck, hfk, hz, Result.andThen]
theorem translate_attr (D g o : Nat) (w : World) (c0 : w.cell? ⟨g, o, none⟩ = some (.string ⟨#[]⟩)) :
  Calls Tryz.prog 71 #[.pointer (some ⟨D, 0, none⟩), .pointer (some ⟨g, o, none⟩), .bool false] w fun e w' => e = .returned (.tuple #[]) /\ w' = w := by
 go_enter Tryz.func71, Tryz.ntmps71
 go_wp2
 refine bodyPost_ret (results_none rfl _ _ _) rfl ?_
 exact ⟨rfl, rfl⟩
theorem translate_el (D a m clk : Nat) (l : List UInt8) (w : World) (hl : (l == [120, 109, 108, 110, 115]) = false) (c0 : w.cell? ⟨a, 0, none⟩ = some (.string ⟨#[]⟩)) (c1 : w.cell? ⟨a, 1, none⟩ = some (.string ⟨l.toArray⟩)) (f0 : w.frozen? ⟨a, 0, none⟩ = false)
  (d4 : w.cell? ⟨D, 4, none⟩ = some (.string ⟨#[]⟩)) (d19 : w.cell? ⟨D, 19, none⟩ = some (.map (some m))) (hm : w.heap[m]? = some (.map #[] clk)) :
  Calls Tryz.prog 71 #[.pointer (some ⟨D, 0, none⟩), .pointer (some ⟨a, 0, none⟩), .bool true] w fun e w' => e = .returned (.tuple #[]) /\ ∃ k, w' = (w.drewN k).setCell ⟨a, 0, none⟩ (.string ⟨#[]⟩) := by
 have hlk := fun k => run_lookup_empty (w.drewN k) m clk ⟨#[]⟩ hm
 go_enter Tryz.func71, Tryz.ntmps71
 go_wp2
 go_quiet (fail)
 go_wp2
 go_end0
 exact ⟨rfl, _, rfl⟩
end
section
open Go.RowKit
theorem pop_do (E : Dx) (p : Pa) (v : Value) (bs strm : List UInt8) (nb0 eo : Bool) (nm : List Nat) (opn : List (List Nat)) (nodes : List Nat) (w : World) (hd : Dec E w p v bs nb0 eo strm) (hk : Stk E w v p (nm :: opn) nodes) (hlen : opn.length <= 1099511627775) :
  Calls Tryz.prog 127 #[.pointer (some ⟨E.D, 0, none⟩)] w fun e w' => ∃ b p' nodes', e = .returned (.pointer (some ⟨b, 0, none⟩)) /\ b ∈ nodes /\ p'.need = p.need /\ p'.tcS = p.tcS /\ p'.tcL = p.tcL /\ Dec E w' p' v bs nb0 eo strm /\ Stk E w' v p' opn nodes' /\ (∀ x, x ∈ nodes' ↔ x ∈ nodes) /\
   Fr (fun x => x = E.D \/ x ∈ nodes) w w' /\ ∃ fr, Blk w' b (nodeA fr (nameB nm)) 156 := by
 obtain ⟨x9, n, line, ls, off, rest, aD, _⟩ := hd.ex
 obtain ⟨⟨sb, fn, fb, l1, l2, hnodes⟩, hnd, hbes, hdep, hmp⟩ := hk
 cases sb with
 | nil => exact (show False from l1).elim
 | cons b sb =>
  obtain ⟨hst, nx, hb, l3⟩ := (show p.stk = .pointer (some ⟨b, 0, none⟩) /\ ∃ nx, Blk w b (nodeA nx (nameB nm)) 156 /\ Lst w nx (opn.map nameB) sb from l1)
  have c11 := aD.cell 11
  have c12 := aD.cell 12
  have c13 := aD.cell 13
  simp [decA] at c11 c12 c13
  rw [hst] at c11
  have hdp : 1 <= p.depth /\ p.depth <= 1099511627776 := by rw [hdep]; simp; omega
  have hDb : ∀ x ∈ nodes, E.D ≠ x := fun x hx e => (hbes x hx).no (e ▸ Or.inl (Or.inl rfl))
  have hbn : b ∈ nodes := by rw [hnodes]; simp
  have b0 := hb.cell 0
  have b1 := hb.cell 1
  simp [nodeA] at b0 b1
  have hDbn := hDb b hbn
  refine (pop_raw E.D b p.free nx p.depth w hdp c11 l2.ptr l3.ptr c12 c13 (aD.fz 11) (aD.fz 12) (aD.fz 13) hDbn b0 b1 (hb.fz 0)).mono ?_
  rintro e w' ⟨rfl, hw'⟩
  have f2 : Fr (fun x => x = E.D \/ x = b) w w' := by
   rw [hw']
   exact ((((Fr.refl (fun x => x = E.D \/ x = b) w).set (Or.inl (Or.inl rfl)) _ _).set (Or.inl (Or.inl rfl)) _ _).set (Or.inl (Or.inr rfl)) _ _).set (Or.inl (Or.inl rfl)) _ _
  have f3 : Fr (fun x => x = E.D \/ x ∈ nodes) w w' := f2.mono (fun x hx => Or.inl (hx.imp id (fun (h : x = b) => h ▸ hbn)))
  rw [hnodes] at hnd
  have hnd2 := List.nodup_append.1 hnd
  have hbsb : b ∉ sb := (List.nodup_cons.1 hnd2.1).1
  have hbfb : b ∉ fb := fun h => hnd2.2.2 b (by simp) b h rfl
  have hmem : ∀ x, x ∈ sb ++ (b :: fb) ↔ x ∈ nodes := by
   intro x; rw [hnodes]; simp only [List.mem_append, List.mem_cons]
   constructor
   ·rintro (h | h | h)
    ·exact Or.inl (Or.inr h)
    ·exact Or.inl (Or.inl h)
    ·exact Or.inr h
   ·rintro ((h | h) | h)
    ·exact Or.inr (Or.inl h)
    ·exact Or.inl h
    ·exact Or.inr (Or.inr h)
  have hbA : Blk w' b (nodeA p.free (nameB nm)) 156 := by
   rw [hw']
   have := ((hb.set_ne (p := ⟨E.D, 12, none⟩) (Ne.symm hDbn) (.int .i64 (p.depth - 1))).set_ne (p := ⟨E.D, 11, none⟩) (Ne.symm hDbn) nx).set 0 p.free
   exact this.set_ne (p := ⟨E.D, 13, none⟩) (Ne.symm hDbn) _
  refine ⟨b, { p with stk := nx, depth := p.depth - 1, free := .pointer (some ⟨b, 0, none⟩) }, sb ++ (b :: fb), rfl, hbn, rfl, rfl, rfl, ?_, ⟨⟨sb, nameB nm :: fn, b :: fb, ?_, ⟨rfl, p.free, hbA, ?_⟩, rfl⟩, ?_, ?_, ?_, ?_⟩, hmem, f3, p.free, hbA⟩
  ·have dA := hd.pa (w' := (w.setCell ⟨E.D, 12, none⟩ (.int .i64 (p.depth - 1))).setCell ⟨E.D, 11, none⟩ nx) (p' := { p with stk := nx, depth := p.depth - 1 }) (fun x9 n line ls off h => (h.set 12 _).set 11 _) (((Fr.refl (fun x => x = E.D) w).set (Or.inl rfl) _ _).set (Or.inl rfl) _ _)
   have bA : Beside E ((w.setCell ⟨E.D, 12, none⟩ (.int .i64 (p.depth - 1))).setCell ⟨E.D, 11, none⟩ nx) v b := ((hbes b hbn).set _ _).set _ _
   have dB := dA.setB bA 0 p.free
   exact dB.pa (w' := w') (p' := { p with stk := nx, depth := p.depth - 1, free := .pointer (some ⟨b, 0, none⟩) }) (fun x9 n line ls off h => by rw [hw']; exact h.set 13 _) (by rw [hw']; exact (Fr.refl (fun x => x = E.D) _).set (Or.inl rfl) _ _)
  ·exact l3.keep f2 (fun x hx h => h.elim (fun e => hDb x (by rw [hnodes]; simp [hx]) e.symm) (fun e => hbsb (e ▸ hx)))
  ·exact l2.keep f2 (fun x hx h => h.elim (fun e => hDb x (by rw [hnodes]; simp [hx]) e.symm) (fun e => hbfb (e ▸ hx)))
  ·refine List.nodup_append.2 ⟨(List.nodup_cons.1 hnd2.1).2, List.nodup_cons.2 ⟨hbfb, hnd2.2.1⟩, ?_⟩
   intro x hx y hy e
   subst e
   rcases List.mem_cons.1 hy with rfl | hy
   ·exact hbsb hx
   ·exact hnd2.2.2 x (by simp [hx]) x hy rfl
  ·exact fun x hx => (hbes x ((hmem x).1 hx)).fr f3
  ·show p.depth - 1 = (opn.length : Int)
   rw [hdep]; simp
  ·obtain ⟨m, clk, m1, m2, m3, m4⟩ := hmp
   exact ⟨m, clk, m1, f3.heap (fun h => h.elim (fun e => m3.no (Or.inl (Or.inl e))) m4) m2, m3.fr f3, fun h => m4 ((hmem m).1 h)⟩
theorem Stk.out {F : Nat -> Prop} {E : Dx} {w w' : World} {v : Value} {p : Pa} {opn : List (List Nat)} {nodes : List Nat} (h : Stk E w v p opn nodes) (f : Fr F w w') (hn : ∀ x ∈ nodes, ¬ F x) (hm : ∀ m, E.ns = .map (some m) -> ¬ F m) : Stk E w' v p opn nodes := by
 obtain ⟨⟨sb, fn, fb, h1, h2, h3⟩, h4, h5, h6, b, clk, m1, m2, m3, m4⟩ := h
 exact ⟨⟨sb, fn, fb, h1.keep f (fun x hx => hn x (by rw [h3]; simp [hx])), h2.keep f (fun x hx => hn x (by rw [h3]; simp [hx])), h3⟩, h4, fun x hx => (h5 x hx).fr f, h6, b, clk, m1, f.heap (hm b m1) m2, m3.fr f, m4⟩
theorem popEl_do (E : Dx) (p : Pa) (v : Value) (bs strm : List UInt8) (nb0 eo : Bool) (nm : List Nat) (opn : List (List Nat)) (nodes : List Nat) (T0 : Nat) (w : World) (hx : (nb nm == [120, 109, 108, 110, 115]) = false) (hd : Dec E w p v bs nb0 eo strm) (hk : Stk E w v p (nm :: opn) nodes) (hlen : opn.length <= 1099511627775)
  (hT : Beside E w v T0) (hTn : T0 ∉ nodes) (hTb : Blk w T0 (nameA nm) 112) (hTm : ∀ m, E.ns = .map (some m) -> m ≠ T0) :
  Calls Tryz.prog 72 #[.pointer (some ⟨E.D, 0, none⟩), .pointer (some ⟨T0, 0, none⟩)] w fun e w' => e = .returned (.bool true) /\ ∃ p' nodes', p'.need = p.need /\ p'.tcS = p.tcS /\ p'.tcL = p.tcL /\ Dec E w' p' v bs nb0 eo strm /\ Stk E w' v p' opn nodes' /\ (∀ x, x ∈ nodes' ↔ x ∈ nodes) /\
   Fr (fun x => x = E.D \/ x ∈ nodes \/ x = T0) w w' /\ Blk w' T0 (nameA nm) 112 := by
 have hp := (pop_do E p v bs strm nb0 eo nm opn nodes w hd hk hlen).mono (R' := fun e w' => ∃ b m clk nx, e = .returned (.pointer (some ⟨b, 0, none⟩)) /\ b ≠ T0 /\ T0 ≠ b /\ T0 ≠ w'.heap.size /\ b ≠ w'.heap.size /\ T0 < w'.heap.size /\ b < w'.heap.size /\ w'.cell? ⟨T0, 0, none⟩ = some (.string ⟨#[]⟩) /\ w'.cell? ⟨T0, 1, none⟩ = some (.string ⟨(nb nm).toArray⟩) /\ w'.frozen? ⟨T0, 0, none⟩ = false /\
   w'.cell? ⟨b, 1, none⟩ = some (.int .i64 0) /\ w'.cell? ⟨b, 2, none⟩ = some (.string ⟨#[]⟩) /\ w'.cell? ⟨b, 3, none⟩ = some (.string ⟨(nb nm).toArray⟩) /\ w'.cell? ⟨E.D, 0, none⟩ = some (.bool true) /\ w'.cell? ⟨E.D, 4, none⟩ = some (.string ⟨#[]⟩) /\ w'.cell? ⟨E.D, 19, none⟩ = some (.map (some m)) /\ w'.heap[m]? = some (.map #[] clk) /\ w'.cell? ⟨E.D, 11, none⟩ = some nx /\
   (nx = .pointer none \/ ∃ b2, nx = .pointer (some ⟨b2, 0, none⟩) /\ b2 ≠ T0 /\ b2 < w'.heap.size /\ w'.cell? ⟨b2, 1, none⟩ = some (.int .i64 0)) /\
   Hid (∃ p' nodes', p'.need = p.need /\ p'.tcS = p.tcS /\ p'.tcL = p.tcL /\ Dec E w' p' v bs nb0 eo strm /\ Stk E w' v p' opn nodes' /\ (∀ x, x ∈ nodes' ↔ x ∈ nodes) /\ Fr (fun x => x = E.D \/ x ∈ nodes) w w' /\ Blk w' T0 (nameA nm) 112)) (by
  rintro e w' ⟨b, p', nodes', rfl, hbn, n1, n2, n3, d', s', hm, f', fr, hbA⟩
  obtain ⟨m, clk, m1, m2, m3, m4⟩ := s'.mp
  have hTb' := hTb.keep f' (fun h => h.elim (fun e => hT.no (Or.inl (Or.inl e))) hTn)
  have hbT : b ≠ T0 := fun e => hTn (e ▸ hbn)
  obtain ⟨x9, n, line, ls, off, rest, aD, _⟩ := d'.ex
  have k0 := aD.cell 0
  have k4 := aD.cell 4
  have k19 := aD.cell 19
  have k11 := aD.cell 11
  simp only [decA] at k0 k4 k19 k11
  rw [m1] at k19
  refine ⟨b, m, clk, p'.stk, rfl, hbT, Ne.symm hbT, Nat.ne_of_lt hTb'.lt, Nat.ne_of_lt hbA.lt, hTb'.lt, hbA.lt, by rw [hTb'.cell]; rfl, by rw [hTb'.cell]; rfl, hTb'.fz 0, by rw [hbA.cell]; rfl, by rw [hbA.cell]; rfl, by rw [hbA.cell]; rfl, k0, k4, k19, m2, k11, ?_, p', nodes', n1, n2, n3, d', s', hm, f', hTb'⟩
  obtain ⟨sb, fn, fb, l1, l2, hnodes⟩ := s'.ex
  cases opn with
  | nil => cases sb with
   | nil => exact Or.inl l1
   | cons b2 sb => exact (show False from l1).elim
  | cons nm2 opn => cases sb with
   | nil => exact (show False from l1).elim
   | cons b2 sb =>
    obtain ⟨hst, nx, hb2, _⟩ := (show p'.stk = .pointer (some ⟨b2, 0, none⟩) /\ ∃ nx, Blk w' b2 (nodeA nx (nameB nm2)) 156 /\ Lst w' nx (opn.map nameB) sb from l1)
    exact Or.inr ⟨b2, hst, fun e => hTn ((hm T0).1 (by rw [hnodes, <- e]; simp)), hb2.lt, by rw [hb2.cell]; rfl⟩)
 have hDT : E.D ≠ T0 := fun e => hT.no (e ▸ Or.inl (Or.inl rfl))
 have hTD : T0 ≠ E.D := Ne.symm hDT
 have htr := fun (D a m clk : Nat) (l : List UInt8) (w : World) hl c0 c1 f0 d4 d19 hm => translate_el D a m clk l w hl c0 c1 f0 d4 d19 hm
 replace htr := zz htr
 have hmT := zz hTm
 replace hT := zz hT
 replace hTn := zz hTn
 clear hd hk hTb
 go_enter Tryz.func72, Tryz.ntmps72
 go_wp2_with (go_at_call 127; refine hp.mono ?_; rintro e w1 ⟨b, m, clk, nx, rfl, bT, Tb, Ts, bsz, Tlt, blt, t0, t1, q0, b1, b2, b3, d0, d4, d19, hm, d11, hnx, k1⟩)
 go_quiet (fail)
 go_wp2
 go_quiet (fail)
 have mb1 : m < w1.heap.size := Lib.lt_of_heap hm
 have hm2 : (w1.alloc (.cells #[.string ⟨#[]⟩, .string ⟨(nb nm).toArray⟩] 105)).heap[m]? = some (.map #[] clk) := (Below.heap_alloc w1 _ m mb1).trans hm
 have hold : Old w1 (w1.alloc (.cells #[.string ⟨#[]⟩, .string ⟨(nb nm).toArray⟩] 105)) := (Fr.refl _ w1).alloc _
 have hfz : (w1.alloc (.cells #[.string ⟨#[]⟩, .string ⟨(nb nm).toArray⟩] 105)).frozen? ⟨T0, 0, none⟩ = false := by
  obtain ⟨p', nodes', n1, n2, n3, d', s', hm, f', hTb'⟩ := k1.out
  exact (hTb'.alloc _).fz 0
 have tA := fun n1 => translate_el E.D T0 m clk (nb nm) ((w1.alloc (.cells #[.string ⟨#[]⟩, .string ⟨(nb nm).toArray⟩] 105)).drewN n1) hx (Old.cell hold t0) (Old.cell hold t1) hfz (Old.cell hold d4) (Old.cell hold d19) hm2
 replace tA := zz tA
 replace hold := zz hold
 have hDs : E.D < w1.heap.size := by
  obtain ⟨p', nodes', n1, n2, n3, d', s', hm, f', hTb'⟩ := k1.out
  exact d'.blocks.1
 have hDs2 : E.D ≠ w1.heap.size := by omega
 have hfin : ∀ k, ∃ p' nodes', p'.need = p.need /\ p'.tcS = p.tcS /\ p'.tcL = p.tcL /\ Dec E (((w1.alloc (.cells #[.string ⟨#[]⟩, .string ⟨(nb nm).toArray⟩] 105)).drewN k).setCell ⟨T0, 0, none⟩ (.string ⟨#[]⟩)) p' v bs nb0 eo strm /\
   Stk E (((w1.alloc (.cells #[.string ⟨#[]⟩, .string ⟨(nb nm).toArray⟩] 105)).drewN k).setCell ⟨T0, 0, none⟩ (.string ⟨#[]⟩)) v p' opn nodes' /\ (∀ x, x ∈ nodes' ↔ x ∈ nodes) /\
   Fr (fun x => x = E.D \/ x ∈ nodes \/ x = T0) w (((w1.alloc (.cells #[.string ⟨#[]⟩, .string ⟨(nb nm).toArray⟩] 105)).drewN k).setCell ⟨T0, 0, none⟩ (.string ⟨#[]⟩)) /\ Blk (((w1.alloc (.cells #[.string ⟨#[]⟩, .string ⟨(nb nm).toArray⟩] 105)).drewN k).setCell ⟨T0, 0, none⟩ (.string ⟨#[]⟩)) T0 (nameA nm) 112 := fun k => by
  obtain ⟨p', nodes', n1, n2, n3, d', s', hmm, f', hTb'⟩ := k1.out
  have ho : Old w1 ((w1.alloc (.cells #[.string ⟨#[]⟩, .string ⟨(nb nm).toArray⟩] 105)).drewN k) := hold.out.drewN k
  have hB1 : Beside E ((w1.alloc (.cells #[.string ⟨#[]⟩, .string ⟨(nb nm).toArray⟩] 105)).drewN k) v T0 := (hT.out.fr f').old ho
  have fT : Fr (fun x => x = T0) ((w1.alloc (.cells #[.string ⟨#[]⟩, .string ⟨(nb nm).toArray⟩] 105)).drewN k) (((w1.alloc (.cells #[.string ⟨#[]⟩, .string ⟨(nb nm).toArray⟩] 105)).drewN k).setCell ⟨T0, 0, none⟩ (.string ⟨#[]⟩)) := (Fr.refl (fun x => x = T0) _).set (Or.inl rfl) _ _
  refine ⟨p', nodes', n1, n2, n3, (d'.old ho).setB hB1 0 _, (s'.step (St.ofOld v ho)).out fT (fun x hx e => hTn.out (e ▸ (hmm x).1 hx)) (fun m' hm' => hmT.out m' hm'), hmm, ?_, (hTb'.keep ho (fun h => h)).set 0 (.string ⟨#[]⟩)⟩
  exact ((f'.mono (fun x hx => Or.inl (hx.imp id (fun h => Or.inl h)))).old ho).trans fT (fun x hx => Or.inl (Or.inr (Or.inr hx)))
 replace hfin := zz hfin
 clear hm hm2 htr hp
 rcases hnx with rfl | ⟨b2, rfl, b2T, b2l, b21⟩
 ·go_wp2_with (go_at_call 71; refine (tA.out _).mono ?_; rintro e w2 ⟨rfl, n3, rfl⟩)
  refine wp_loop_rounds 1 ?_
  rw [rounds_succ]
  go_wp2
  go_ret
  exact ⟨rfl, hfin.out _⟩
 ·have b2s : b2 ≠ w1.heap.size := by omega
  go_wp2_with (go_at_call 71; refine (tA.out _).mono ?_; rintro e w2 ⟨rfl, n3, rfl⟩)
  refine wp_loop_rounds 1 ?_
  rw [rounds_succ]
  go_wp2
  go_ret
  exact ⟨rfl, hfin.out _⟩
end
section
open Go.RowKit
def pathPI : UInt8 -> List UInt8 -> Prop
 | _, [] => False
 | b0, [c] => b0 = 63 /\ c = 62
 | b0, c :: t => ¬ (b0 = 63 /\ c = 62) /\ pathPI c t
theorem rawToken_pi (E : Dx) (p : Pa) (v : Value) (bs : List UInt8) (nm : List Nat) (ws d tl : List UInt8) (c1 : UInt8) (X : List UInt8) (w : World) (hp : p.need = false) (hnm : NameOk nm) (hws : ∀ b ∈ ws, isWs b = true) (hl : (nb nm).length <= 1099511627776) (hdl : d.length <= 1099511627000)
  (hX : d ++ 63 :: 62 :: tl = c1 :: X) (hc1 : isWs c1 = false) (c : UInt8) (Y : List UInt8) (hY : ws ++ c1 :: X = c :: Y) (hc : nmB c = false) (hpi : pathPI 0 (d ++ [63, 62])) (hxml : nb nm ≠ [120, 109, 108])
  (h : Dec E w p v bs true false (60 :: 63 :: (nb nm ++ (ws ++ (d ++ 63 :: 62 :: tl))))) :
  Calls Tryz.prog 66 #[.pointer (some ⟨E.D, 0, none⟩)] w fun e w' => ∃ g cap v', e = .returned (.tuple #[.iface 116 (.agg #[.string ⟨(nb nm).toArray⟩, .slice (some ⟨g, 0, none⟩) d.length cap]), .nilIface]) /\ Dec E w' p v' (d ++ [63, 62]) true false tl /\ St E w v w' v' /\ v'.ownBlock = some g /\ Lies w' g 0 d := by
 obtain ⟨c6, c20, c14, c0⟩ := h.cells
 rw [hp] at c14
 have c20' : w.cell? ⟨E.D, 20, none⟩ = some .nilIface := c20
 clear c20
 have hg := (getc_cons E p v bs true 60 (63 :: (nb nm ++ (ws ++ (d ++ 63 :: 62 :: tl)))) w h).mono (R' := fun e w' => e = .returned (.tuple #[.int .u8 60, .bool true]) /\ Hid (Dec E w' p v bs false false (63 :: (nb nm ++ (ws ++ (d ++ 63 :: 62 :: tl)))) /\ Fr E.rd w w')) (fun _ _ h => h)
 have hm1 : ∀ w1, Dec E w1 p v bs false false (63 :: (nb nm ++ (ws ++ (d ++ 63 :: 62 :: tl)))) -> Calls Tryz.prog 114 #[.pointer (some ⟨E.D, 0, none⟩)] w1 fun e w' => e = .returned (.tuple #[.int .u8 63, .bool true]) /\ Hid (Dec E w' p v bs false false (nb nm ++ (ws ++ (d ++ 63 :: 62 :: tl))) /\ Fr E.rd w1 w') := fun w1 hd => mustgetc_cons E p v bs false 63 _ w1 hd
 have hnam : ∀ w2, Dec E w2 p v bs false false (nb nm ++ (ws ++ (d ++ 63 :: 62 :: tl))) -> Calls Tryz.prog 117 #[.pointer (some ⟨E.D, 0, none⟩)] w2 fun e w3 => e = .returned (.tuple #[.string ⟨(nb nm).toArray⟩, .bool true]) /\
   Hid (∃ v', v' ≠ .slice none 0 0 /\ Dec E w3 p v' (nb nm) true false (ws ++ c1 :: X) /\ St E w2 v w3 v') := fun w2 hd => by
  have hd2 := hd.up
  rw [hX, hY] at hd2
  refine (name_do E p v bs nm c Y _ hnm hc hd2 hl).mono ?_
  rintro e w3 ⟨rfl, v', k0, k1, k2⟩
  rw [<- hY] at k1
  exact ⟨rfl, v', k0, k1, k2⟩
 have hsp : ∀ w3 v', Dec E w3 p v' (nb nm) true false (ws ++ c1 :: X) -> Calls Tryz.prog 116 #[.pointer (some ⟨E.D, 0, none⟩)] w3 fun e w4 => e = .returned (.tuple #[]) /\ Hid (Dec E w4 p v' (nb nm) true false (d ++ 63 :: 62 :: tl) /\ Fr E.rd w3 w4) := fun w3 v' hd => by
  have := space_do E p v' (nb nm) ws c1 X w3 hws hc1 hd
  rw [<- hX] at this
  exact this
 have hrs : ∀ w4 v', Dec E w4 p v' (nb nm) true false (d ++ 63 :: 62 :: tl) -> Calls Tryz.prog 118 #[.pointer (some ⟨E.D, 7, none⟩)] w4 fun e w5 => e = .returned (.tuple #[]) /\ Hid (∃ v5, Dec E w5 p v5 [] true false ((d ++ [63, 62]) ++ tl) /\ St E w4 v' w5 v5) := fun w4 v' hd => by
  have e : d ++ 63 :: 62 :: tl = (d ++ [63, 62]) ++ tl := by simp
  rw [e] at hd
  refine (breset E p v' (nb nm) _ true false w4 hd).mono ?_
  rintro e w5 ⟨rfl, v5, k1, k2, _⟩
  exact ⟨rfl, v5, k1, k2⟩
 have hx2 : (nb nm == [120, 109, 108]) = false := by
  rw [beq_eq_false_iff_ne]; exact hxml
 have hDl : (d ++ [63, 62]).length = d.length + 2 := by simp
 have hdata : ∀ w1 v1, Dec E w1 p v1 (d ++ [63, 62]) true false tl -> ∃ g cap N M, v1 = .slice (some ⟨g, 0, none⟩) N cap /\ M = d.length /\ N = M + 2 /\ N <= cap /\ N <= 1099511627776 /\ Lies w1 g 0 d := fun w1 v1 hd => by
  obtain ⟨g, cap, rfl, h1, h2⟩ := hd.rowOf (.inr (by simp))
  exact ⟨g, cap, _, d.length, rfl, rfl, by simp, h1, by simp; omega, fun j c hj => h2 j c (by rw [List.getElem?_append_left (List.getElem?_eq_some_iff.1 hj).1]; exact hj)⟩
 generalize hD : d ++ [63, 62] = D at *
 replace hm1 := zz hm1
 replace hnam := zz hnam
 replace hsp := zz hsp
 replace hrs := zz hrs
 replace hpi := zz hpi
 replace hD := zz hD
 replace hDl := zz hDl
 replace hdata := zz hdata
 clear h hX hc1 hY hc hxml hws hnm hl
 go_enter Tryz.func66, Tryz.ntmps66
 go_wp2_with (first | (go_at_call 111; refine hg.mono ?_; rintro e w1 ⟨rfl, k1⟩) | (go_at_call 114; refine (hm1.out w1 k1.out.1).mono ?_; rintro e w2 ⟨rfl, k2⟩; clear hm1) | (go_at_call 117; refine (hnam.out w2 k2.out.1).mono ?_; rintro e w3 ⟨rfl, k3⟩; obtain ⟨v3, hv3, d3, s3⟩ := k3; replace d3 := zz d3; replace s3 := zz s3) | (go_at_call 116; refine (hsp.out w3 v3 d3.out).mono ?_; rintro e w4 ⟨rfl, k4⟩) | (go_at_call 118; refine (hrs.out w4 v3 k4.out.1).mono ?_; rintro e w5 ⟨rfl, k5⟩))
 obtain ⟨v5, d5, s5⟩ := k5.out
 have S5 : Hid (St E w v w5 v5) := zz (((((St.rd v k1.out.2).andRd k2.out.2).trans s3.out).andRd k4.out.2).trans s5)
 replace d5 := zz d5
 clear k1 k2 s3 d3 k4 k5 s5 hg hnam hsp hrs
 go_loopg [9] D.length (fun k u9 wr => ∃ (b0 : UInt8) (rest dn : List UInt8) (v1 : Value), u9 = .int .u8 b0.toNat /\ rest.length = k /\ D = dn ++ rest /\ pathPI b0 rest /\ Dec E wr p v1 dn true false (rest ++ tl) /\ St E w v wr v1)
 case atStart => exact ⟨0, D, [], v5, rfl, rfl, rfl, hpi.out, d5.out, S5.out⟩
 case round =>
  obtain ⟨b0, rest, dn, v1, rfl, hk, hdn, hpath, hdec, hst⟩ := hrel
  clear d5 S5 hpi
  replace hst := zz hst
  have hne : rest ≠ [] := by intro h0; rw [h0] at hpath; exact hpath
  cases rest with
  | nil => exact absurd rfl hne
  | cons x rest =>
   have hlen : dn.length + (x :: rest).length = D.length := by rw [hdn, List.length_append]
   have hg := (mustgetc_cons E p v1 dn true x (rest ++ tl) wr hdec).mono (R' := fun e w' => e = .returned (.tuple #[.int .u8 x.toNat, .bool true]) /\ Hid (Dec E w' p v1 dn false false (rest ++ tl) /\ Fr E.rd wr w')) (fun _ _ h => h)
   have hw : ∀ w1, Dec E w1 p v1 dn false false (rest ++ tl) -> Calls Tryz.prog 119 #[.pointer (some ⟨E.D, 7, none⟩), .int .u8 x.toNat] w1 fun e w' => e = .returned .nilIface /\ Hid (∃ v', Dec E w' p v' (dn ++ [x]) true false (rest ++ tl) /\ St E w1 v1 w' v') := fun w1 hd => by
    refine (wbyte E p v1 dn _ false false x w1 hd (by have := hDl.out; omega)).mono ?_
    rintro e w' ⟨rfl, v', k1, k2⟩
    exact ⟨rfl, v', k1.up, k2⟩
   replace hw := zz hw
   cases rest with
   | nil =>
    obtain ⟨rfl, rfl⟩ : b0 = 63 /\ x = 62 := hpath
    have hD2 : D = dn ++ [62] := hdn
    rw [<- hD2] at hw
    replace hD2 := zz hD2
    clear hdn hk hlen hdec
    go_wp2_with (first | (go_at_call 114; refine hg.mono ?_; rintro e w2 ⟨rfl, k2⟩) | (go_at_call 119; refine (hw.out w2 k2.out.1).mono ?_; rintro e w3 ⟨rfl, k3⟩; obtain ⟨v3, d3, s3⟩ := k3.out; obtain ⟨g, cap, N, M, rfl, hM, hN, hNc, hN4, hL⟩ := hdata.out _ _ d3; have hby := bbytes E p _ _ _ _ _ w3 d3; replace d3 := zz d3; replace s3 := zz s3; replace hL := zz hL; replace hM := zz hM; have hsub : IntKind.i64.wrap ((N : Int) - 2) = (M : Int) := (by rw [IntWalk.i64_in _ (by omega)]; omega); have hMc : (M : Int) <= cap := (by omega); have hMcN : M <= cap := (by omega); replace hN := zz hN) | (go_at_call 120; refine hby.mono ?_; rintro e w4 ⟨rfl, n4, rfl⟩))
    go_ret2
    have hM' := hM.out
    subst hM'
    exact ⟨g, cap, _, rfl, d3.out.drewN _, (((hst.out.andRd k2.out.2).trans s3.out).drewN _), rfl, hL.out⟩
   | cons y rest =>
    obtain ⟨hno, hpath⟩ : ¬ (b0 = 63 /\ x = 62) /\ pathPI x (y :: rest) := hpath
    replace hpath := zz hpath
    have hdn2 : Hid (D = (dn ++ [x]) ++ (y :: rest)) := zz (by rw [hdn]; simp)
    have hno2 : ((b0.toNat : Int) == 63) = true -> ((x.toNat : Int) == 62) = false := fun h1 => u8_ne (n := 62) (by decide) (by rw [beq_eq_false_iff_ne]; exact fun h2 => hno ⟨u8_eq (n := 63) h1, h2⟩)
    replace hk := zz hk
    clear hdn hlen hdec hno
    cases y0 : ((b0.toNat : Int) == 63) with
    | true =>
     have y1 := hno2 y0
     clear hno2
     go_wp2_with (first | (go_at_call 114; refine hg.mono ?_; rintro e w2 ⟨rfl, k2⟩) | (go_at_call 119; refine (hw.out w2 k2.out.1).mono ?_; rintro e w3 ⟨rfl, k3⟩))
     go_roundg (y :: rest).length
     case measure => have := hk.out; simp at this ⊢; omega
     case rel =>
      obtain ⟨v3, d3, s3⟩ := k3.out
      exact ⟨x, y :: rest, dn ++ [x], v3, rfl, rfl, hdn2.out, hpath.out, d3, (hst.out.andRd k2.out.2).trans s3⟩
    | false =>
     clear hno2
     go_wp2_with (first | (go_at_call 114; refine hg.mono ?_; rintro e w2 ⟨rfl, k2⟩) | (go_at_call 119; refine (hw.out w2 k2.out.1).mono ?_; rintro e w3 ⟨rfl, k3⟩))
     go_roundg (y :: rest).length
     case measure => have := hk.out; simp at this ⊢; omega
     case rel =>
      obtain ⟨v3, d3, s3⟩ := k3.out
      exact ⟨x, y :: rest, dn ++ [x], v3, rfl, rfl, hdn2.out, hpath.out, d3, (hst.out.andRd k2.out.2).trans s3⟩
end
section
open Go.RowKit
def pathCM : UInt8 -> UInt8 -> List UInt8 -> Prop
 | _, _, [] => False
 | b0, b1, [c] => b0 = 45 /\ b1 = 45 /\ c = 62
 | b0, b1, c :: t => ¬ (b0 = 45 /\ b1 = 45) /\ pathCM b1 c t
theorem rawToken_cm (E : Dx) (p : Pa) (v : Value) (bs : List UInt8) (d tl : List UInt8) (w : World) (hp : p.need = false) (hdl : d.length <= 1099511627000) (hpi : pathCM 0 0 (d ++ [45, 45, 62]))
  (h : Dec E w p v bs true false (60 :: 33 :: 45 :: 45 :: (d ++ 45 :: 45 :: 62 :: tl))) :
  Calls Tryz.prog 66 #[.pointer (some ⟨E.D, 0, none⟩)] w fun e w' => ∃ g cap v', e = .returned (.tuple #[.iface 114 (.slice (some ⟨g, 0, none⟩) d.length cap), .nilIface]) /\ Dec E w' p v' (d ++ [45, 45, 62]) true false tl /\ St E w v w' v' /\ v'.ownBlock = some g /\ Lies w' g 0 d := by
 obtain ⟨c6, c20, c14, c0⟩ := h.cells
 rw [hp] at c14
 have c20' : w.cell? ⟨E.D, 20, none⟩ = some .nilIface := c20
 clear c20
 have hg := (getc_cons E p v bs true 60 (33 :: 45 :: 45 :: (d ++ 45 :: 45 :: 62 :: tl)) w h).mono (R' := fun e w' => e = .returned (.tuple #[.int .u8 60, .bool true]) /\ Hid (Dec E w' p v bs false false (33 :: 45 :: 45 :: (d ++ 45 :: 45 :: 62 :: tl)) /\ Fr E.rd w w')) (fun _ _ h => h)
 have hm1 : ∀ w1, Dec E w1 p v bs false false (33 :: 45 :: 45 :: (d ++ 45 :: 45 :: 62 :: tl)) -> Calls Tryz.prog 114 #[.pointer (some ⟨E.D, 0, none⟩)] w1 fun e w' => e = .returned (.tuple #[.int .u8 33, .bool true]) /\ Hid (Dec E w' p v bs false false (45 :: 45 :: (d ++ 45 :: 45 :: 62 :: tl)) /\ Fr E.rd w1 w') := fun w1 hd => mustgetc_cons E p v bs false 33 _ w1 hd
 have hm2 : ∀ w1, Dec E w1 p v bs false false (45 :: 45 :: (d ++ 45 :: 45 :: 62 :: tl)) -> Calls Tryz.prog 114 #[.pointer (some ⟨E.D, 0, none⟩)] w1 fun e w' => e = .returned (.tuple #[.int .u8 45, .bool true]) /\ Hid (Dec E w' p v bs false false (45 :: (d ++ 45 :: 45 :: 62 :: tl)) /\ Fr E.rd w1 w') := fun w1 hd => mustgetc_cons E p v bs false 45 _ w1 hd
 have hm3 : ∀ w1, Dec E w1 p v bs false false (45 :: (d ++ 45 :: 45 :: 62 :: tl)) -> Calls Tryz.prog 114 #[.pointer (some ⟨E.D, 0, none⟩)] w1 fun e w' => e = .returned (.tuple #[.int .u8 45, .bool true]) /\ Hid (Dec E w' p v bs false false (d ++ 45 :: 45 :: 62 :: tl) /\ Fr E.rd w1 w') := fun w1 hd => mustgetc_cons E p v bs false 45 _ w1 hd
 have hrs : ∀ w4, Dec E w4 p v bs false false (d ++ 45 :: 45 :: 62 :: tl) -> Calls Tryz.prog 118 #[.pointer (some ⟨E.D, 7, none⟩)] w4 fun e w5 => e = .returned (.tuple #[]) /\ Hid (∃ v5, Dec E w5 p v5 [] true false ((d ++ [45, 45, 62]) ++ tl) /\ St E w4 v w5 v5) := fun w4 hd => by
  have hd := hd.up
  have e : d ++ 45 :: 45 :: 62 :: tl = (d ++ [45, 45, 62]) ++ tl := by simp
  rw [e] at hd
  refine (breset E p v bs _ true false w4 hd).mono ?_
  rintro e w5 ⟨rfl, v5, k1, k2, _⟩
  exact ⟨rfl, v5, k1, k2⟩
 have hDl : (d ++ [45, 45, 62]).length = d.length + 3 := by simp
 have hdata : ∀ w1 v1, Dec E w1 p v1 (d ++ [45, 45, 62]) true false tl -> ∃ g cap N M, v1 = .slice (some ⟨g, 0, none⟩) N cap /\ M = d.length /\ N = M + 3 /\ N <= cap /\ N <= 1099511627776 /\ Lies w1 g 0 d := fun w1 v1 hd => by
  obtain ⟨g, cap, rfl, h1, h2⟩ := hd.rowOf (.inr (by simp))
  exact ⟨g, cap, _, d.length, rfl, rfl, by simp, h1, by simp; omega, fun j c hj => h2 j c (by rw [List.getElem?_append_left (List.getElem?_eq_some_iff.1 hj).1]; exact hj)⟩
 generalize hD : d ++ [45, 45, 62] = D at *
 replace hm1 := zz hm1
 replace hm2 := zz hm2
 replace hm3 := zz hm3
 replace hrs := zz hrs
 replace hpi := zz hpi
 replace hD := zz hD
 replace hDl := zz hDl
 replace hdata := zz hdata
 clear h
 go_enter Tryz.func66, Tryz.ntmps66
 go_wp2_with (first | (go_at_call 111; refine hg.mono ?_; rintro e w1 ⟨rfl, k1⟩) | (go_at_call 114; refine (hm1.out w1 k1.out.1).mono ?_; rintro e w2 ⟨rfl, k2⟩; clear hm1) | (go_at_call 114; refine (hm2.out w2 k2.out.1).mono ?_; rintro e w3 ⟨rfl, k3⟩; clear hm2) | (go_at_call 114; refine (hm3.out w3 k3.out.1).mono ?_; rintro e w4 ⟨rfl, k4⟩; clear hm3) | (go_at_call 118; refine (hrs.out w4 k4.out.1).mono ?_; rintro e w5 ⟨rfl, k5⟩))
 obtain ⟨v5, d5, s5⟩ := k5.out
 have S5 : Hid (St E w v w5 v5) := zz (((((St.rd v k1.out.2).andRd k2.out.2).andRd k3.out.2).andRd k4.out.2).trans s5)
 replace d5 := zz d5
 clear k1 k2 k3 k4 k5 s5 hg hrs
 go_loopg [16, 17] D.length (fun k u16 u17 wr => ∃ (b0 b1 : UInt8) (rest dn : List UInt8) (v1 : Value), u16 = .int .u8 b0.toNat /\ u17 = .int .u8 b1.toNat /\ rest.length = k /\ D = dn ++ rest /\ pathCM b0 b1 rest /\ Dec E wr p v1 dn true false (rest ++ tl) /\ St E w v wr v1)
 case atStart => exact ⟨0, 0, D, [], v5, rfl, rfl, rfl, rfl, hpi.out, d5.out, S5.out⟩
 case round =>
  obtain ⟨b0, b1, rest, dn, v1, rfl, rfl, hk, hdn, hpath, hdec, hst⟩ := hrel
  clear d5 S5 hpi
  replace hst := zz hst
  have hne : rest ≠ [] := by intro h0; rw [h0] at hpath; exact hpath
  cases rest with
  | nil => exact absurd rfl hne
  | cons x rest =>
   have hlen : dn.length + (x :: rest).length = D.length := by rw [hdn, List.length_append]
   have hg := (mustgetc_cons E p v1 dn true x (rest ++ tl) wr hdec).mono (R' := fun e w' => e = .returned (.tuple #[.int .u8 x.toNat, .bool true]) /\ Hid (Dec E w' p v1 dn false false (rest ++ tl) /\ Fr E.rd wr w')) (fun _ _ h => h)
   have hw : ∀ w1, Dec E w1 p v1 dn false false (rest ++ tl) -> Calls Tryz.prog 119 #[.pointer (some ⟨E.D, 7, none⟩), .int .u8 x.toNat] w1 fun e w' => e = .returned .nilIface /\ Hid (∃ v', Dec E w' p v' (dn ++ [x]) true false (rest ++ tl) /\ St E w1 v1 w' v') := fun w1 hd => by
    refine (wbyte E p v1 dn _ false false x w1 hd (by have := hDl.out; omega)).mono ?_
    rintro e w' ⟨rfl, v', k1, k2⟩
    exact ⟨rfl, v', k1.up, k2⟩
   replace hw := zz hw
   cases rest with
   | nil =>
    obtain ⟨rfl, rfl, rfl⟩ : b0 = 45 /\ b1 = 45 /\ x = 62 := hpath
    have hD2 : D = dn ++ [62] := hdn
    rw [<- hD2] at hw
    replace hD2 := zz hD2
    clear hdn hk hlen hdec
    go_wp2_with (first | (go_at_call 114; refine hg.mono ?_; rintro e w2 ⟨rfl, k2⟩) | (go_at_call 119; refine (hw.out w2 k2.out.1).mono ?_; rintro e w3 ⟨rfl, k3⟩; obtain ⟨v3, d3, s3⟩ := k3.out; obtain ⟨g, cap, N, M, rfl, hM, hN, hNc, hN4, hL⟩ := hdata.out _ _ d3; have hby := bbytes E p _ _ _ _ _ w3 d3; replace d3 := zz d3; replace s3 := zz s3; replace hL := zz hL; replace hM := zz hM; have hsub : IntKind.i64.wrap ((N : Int) - 3) = (M : Int) := (by rw [IntWalk.i64_in _ (by omega)]; omega); have hMc : (M : Int) <= cap := (by omega); have hMcN : M <= cap := (by omega); replace hN := zz hN) | (go_at_call 120; refine hby.mono ?_; rintro e w4 ⟨rfl, n4, rfl⟩))
    go_ret2
    have hM' := hM.out
    subst hM'
    exact ⟨g, cap, _, rfl, d3.out.drewN _, (((hst.out.andRd k2.out.2).trans s3.out).drewN _), rfl, hL.out⟩
   | cons y rest =>
    obtain ⟨hno, hpath⟩ : ¬ (b0 = 45 /\ b1 = 45) /\ pathCM b1 x (y :: rest) := hpath
    replace hpath := zz hpath
    have hdn2 : Hid (D = (dn ++ [x]) ++ (y :: rest)) := zz (by rw [hdn]; simp)
    have hno2 : ((b0.toNat : Int) == 45) = true -> ((b1.toNat : Int) == 45) = false := fun h1 => u8_ne (n := 45) (by decide) (by rw [beq_eq_false_iff_ne]; exact fun h2 => hno ⟨u8_eq (n := 45) h1, h2⟩)
    replace hk := zz hk
    clear hdn hlen hdec hno
    cases y0 : ((b0.toNat : Int) == 45) with
    | true =>
     have y1 := hno2 y0
     clear hno2
     go_wp2_with (first | (go_at_call 114; refine hg.mono ?_; rintro e w2 ⟨rfl, k2⟩) | (go_at_call 119; refine (hw.out w2 k2.out.1).mono ?_; rintro e w3 ⟨rfl, k3⟩))
     go_roundg (y :: rest).length
     case measure => have := hk.out; simp at this ⊢; omega
     case rel =>
      obtain ⟨v3, d3, s3⟩ := k3.out
      exact ⟨b1, x, y :: rest, dn ++ [x], v3, rfl, rfl, rfl, hdn2.out, hpath.out, d3, (hst.out.andRd k2.out.2).trans s3⟩
    | false =>
     clear hno2
     go_wp2_with (first | (go_at_call 114; refine hg.mono ?_; rintro e w2 ⟨rfl, k2⟩) | (go_at_call 119; refine (hw.out w2 k2.out.1).mono ?_; rintro e w3 ⟨rfl, k3⟩))
     go_roundg (y :: rest).length
     case measure => have := hk.out; simp at this ⊢; omega
     case rel =>
      obtain ⟨v3, d3, s3⟩ := k3.out
      exact ⟨b1, x, y :: rest, dn ++ [x], v3, rfl, rfl, rfl, hdn2.out, hpath.out, d3, (hst.out.andRd k2.out.2).trans s3⟩
theorem Ret.ne' {w : World} {v vr : Value} {d : List UInt8} (h : Ret w v vr d) (hd : v ≠ .slice none 0 0) : vr ≠ .slice none 0 0 := by
 rcases h with ⟨_, h2, rfl⟩ | ⟨g, cap, rfl, _⟩
 ·exact absurd h2 hd
 ·simp
theorem must_lit (E : Dx) (p : Pa) (v : Value) (bs : List UInt8) (n : Nat) (hn : n < 256) (t : List UInt8) (w : World) (h : Dec E w p v bs false false (UInt8.ofNat n :: t)) :
  Calls Tryz.prog 114 #[.pointer (some ⟨E.D, 0, none⟩)] w fun e w' => e = .returned (.tuple #[.int .u8 n, .bool true]) /\ Hid (Dec E w' p v bs false false t /\ Fr E.rd w w') := by
 have := mustgetc_cons E p v bs false (UInt8.ofNat n) t w h
 rw [ofNat_toNat hn] at this
 exact this
theorem rawToken_cd (E : Dx) (p : Pa) (v : Value) (bs tl : List UInt8) (l : List El) (rs : List Nat) (w : World) (hp : p.need = false) (hlo : elsOk [] true false 0 0 l) (hE : elsEnd 0 0 l = (93, 93)) (hl : (srcs l).length <= 1099511627000) (hrs : ∀ r ∈ rs, isCh r = true) (hout : elsOut 0 l = nb rs ++ [93, 93])
  (h : Dec E w p v bs true false (60 :: 33 :: 91 :: 67 :: 68 :: 65 :: 84 :: 65 :: 91 :: (srcs l ++ 62 :: tl))) :
  Calls Tryz.prog 66 #[.pointer (some ⟨E.D, 0, none⟩)] w fun e w' => ∃ g cap v' bs', e = .returned (.tuple #[.iface 113 (.slice (some ⟨g, 0, none⟩) (nb rs).length cap), .nilIface]) /\ Dec E w' p v' bs' true false tl /\ St E w v w' v' /\ v'.ownBlock = some g /\ Lies w' g 0 (nb rs) := by
 obtain ⟨c6, c20, c14, c0⟩ := h.cells
 rw [hp] at c14
 have c20' : w.cell? ⟨E.D, 20, none⟩ = some .nilIface := c20
 clear c20
 have ht := fun w1 (hd : Dec E w1 p v bs false false (srcs l ++ 62 :: tl)) => (text_cd E p tl l rs v bs w1 hd.up hlo hE hl hrs hout).mono (R' := fun e w' => ∃ g m cap, e = .returned (.slice (some ⟨g, 0, none⟩) m cap) /\ Hid (m = (nb rs).length /\ ∃ v', Dec E w' p v' (elsOut 0 l) true false tl /\ St E w1 v w' v' /\ v'.ownBlock = some g /\ Lies w' g 0 (nb rs))) (by
  rintro e w' ⟨vr, v', rfl, h1, h2, h3, _⟩
  obtain ⟨g', cap', hv', _, _⟩ := h1.rowOf (.inr (by rw [hout]; simp))
  obtain ⟨g, cap, rfl, h4, _, h5⟩ := h3.slice (h3.ne' (by rw [hv']; simp))
  exact ⟨g, _, cap, rfl, rfl, v', h1, h2, h4, h5⟩)
 have heq := fun (w : World) (a : Option Addr) (l c : Nat) => Lib.run_eql_slice_nil (P := Tryz.prog) w 56 5 a l c 0 0 Tryz.underlying56
 have hg := (getc_cons E p v bs true 60 _ w h).mono (R' := fun e w' => e = .returned (.tuple #[.int .u8 60, .bool true]) /\ Hid (Dec E w' p v bs false false (33 :: 91 :: 67 :: 68 :: 65 :: 84 :: 65 :: 91 :: (srcs l ++ 62 :: tl)) /\ Fr E.rd w w')) (fun _ _ h => h)
 have hm := fun n hn t w1 hd => must_lit E p v bs n hn t w1 hd
 replace hm := zz hm
 generalize srcs l ++ 62 :: tl = S at *
 replace ht := zz ht
 clear h hlo hE hrs hout hl
 go_enter Tryz.func66, Tryz.ntmps66
 go_wp2_with (first | (go_at_call 111; refine hg.mono ?_; rintro e w1 ⟨rfl, k1⟩) | (go_at_call 114; refine (hm.out 33 (by decide) _ w1 k1.out.1).mono ?_; rintro e w2 ⟨rfl, k2⟩; clear hg) | (go_at_call 114; refine (hm.out 91 (by decide) _ w2 k2.out.1).mono ?_; rintro e w3 ⟨rfl, k3⟩))
 refine wp_loop_rounds 7 ?_
 rw [rounds_succ]
 go_wp2_with (go_at_call 114; refine (hm.out 67 (by decide) _ w3 k3.out.1).mono ?_; rintro e w4 ⟨rfl, k4⟩)
 rw [rounds_succ]
 go_wp2_with (go_at_call 114; refine (hm.out 68 (by decide) _ w4 k4.out.1).mono ?_; rintro e w5 ⟨rfl, k5⟩)
 rw [rounds_succ]
 go_wp2_with (go_at_call 114; refine (hm.out 65 (by decide) _ w5 k5.out.1).mono ?_; rintro e w6 ⟨rfl, k6⟩)
 rw [rounds_succ]
 go_wp2_with (go_at_call 114; refine (hm.out 84 (by decide) _ w6 k6.out.1).mono ?_; rintro e w7 ⟨rfl, k7⟩)
 rw [rounds_succ]
 go_wp2_with (go_at_call 114; refine (hm.out 65 (by decide) _ w7 k7.out.1).mono ?_; rintro e w8 ⟨rfl, k8⟩)
 rw [rounds_succ]
 go_wp2_with (go_at_call 114; refine (hm.out 91 (by decide) _ w8 k8.out.1).mono ?_; rintro e w9 ⟨rfl, k9⟩)
 rw [rounds_succ]
 go_wp2_with (go_at_call 113; refine (ht.out w9 k9.out.1).mono ?_; rintro e w10 ⟨g, m, cap, rfl, k10⟩)
 go_ret2
 obtain ⟨rfl, v', h1, h2, h3, h4⟩ := k10.out
 exact ⟨g, cap, v', _, rfl, h1, (((((((((St.rd v k1.out.2).andRd k2.out.2).andRd k3.out.2).andRd k4.out.2).andRd k5.out.2).andRd k6.out.2).andRd k7.out.2).andRd k8.out.2).andRd k9.out.2).trans h2, h3, h4⟩
end
end Go.Proofs.YtepbbahdhhjibaaGreatDoor
