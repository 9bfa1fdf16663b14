/- own text -/
import Derived.Test.YtepbbahdhhjibaaGreatDoorD22
namespace Go.Proofs.YtepbbahdhhjibaaGreatDoor
set_option linter.unusedSimpArgs false
set_option linter.unusedVariables false
set_option maxHeartbeats 4000000
set_option maxRecDepth 100000
set_option linter.unusedSectionVars false
section
open Go.RowKit
theorem Wp.direct {E : Wx} {w : World} {va : Value} {out : List UInt8} (h : Wp E w va out 0) (r : List UInt8) {m : Nat} (hm : m = r.length) (hm0 : 0 < m) : ∀ (g o cap : Nat), Lies w g o r -> out.length + m <= 1099511627776 -> ∃ _ : Unit, ∀ k, Calls Tryz.prog 217 #[.pointer (some ⟨E.W, 0, none⟩), .slice (some ⟨g, o, none⟩) m cap] (w.drewN k) fun e w' => e = .returned (.tuple #[.int .i64 m, .nilIface]) /\ w'.cell? ⟨E.B, 0, none⟩ = some .nilIface /\ w'.frozen? ⟨E.B, 0, none⟩ = false /\ Hid (∃ va', WSt E w va w' va' /\ Wp E w' va' (out ++ r) 0) := by
 intro g o cap hl hlen
 obtain ⟨⟨a, b, cells, h1, h2, h3, h4, h5, h6, h7, h8⟩, hle, hne, hnv⟩ := h
 have hb : b = [] := List.length_eq_zero_iff.1 h2
 subst hb
 rw [List.append_nil] at h1
 subst h1
 refine ⟨(), fun k => ?_⟩
 refine (writer_write E.W va out r g o m cap (w.drewN k) h7 h8 (fun e => (hnv _ e).2.2 rfl) hl hm hm0 hlen).mono ?_
 rintro e w' ⟨rfl, va', k1, k2, k3, k4, k5⟩
 have kB : Blk w' E.B (wrA E 0) 196 := Blk.keep (w := w.drewN k) h3 k5 (fun h => h.elim (fun e => hne.2.1 e) (fun e => (hnv _ e).1 rfl))
 have kBB : Blk w' E.BB cells 5 := Blk.keep (w := w.drewN k) h4 k5 (fun h => h.elim (fun e => hne.2.2 e) (fun e => (hnv _ e).2.1 rfl))
 have hwl : E.B < w.heap.size /\ E.BB < w.heap.size /\ E.W < w.heap.size := ⟨h3.lt, h4.lt, h7.lt⟩
 refine ⟨rfl, by rw [kB.cell]; rfl, kB.fz 0, va', ⟨((Fr.refl (E.own va) w).drewN k).trans k5 (fun x hx => Or.inl (hx.elim (fun h => .inr (.inr (.inl h))) (fun h => .inr (.inr (.inr h))))), k3⟩, ⟨⟨out ++ r, [], cells, by simp, rfl, kB, kBB, h5, by simp [bv], k1, k2⟩, by omega, hne, fun y hy => ?_⟩⟩
 rcases k3 y hy with h | h
 ·exact hnv y h
 ·have h' : w.heap.size <= y := h
  exact ⟨by omega, by omega, by omega⟩
theorem Wp.setB0 {E : Wx} {w : World} {va : Value} {out : List UInt8} {n : Nat} (h : Wp E w va out n) : Wp E (w.setCell ⟨E.B, 0, none⟩ .nilIface) va out n := by
 obtain ⟨⟨a, b, cells, h1, h2, h3, h4, h5, h6, h7, h8⟩, hle, hne, hnv⟩ := h
 refine ⟨⟨a, b, cells, h1, h2, h3.set 0 .nilIface, h4.set_ne (Ne.symm hne.1) _, h5, h6, h7.set_ne (Ne.symm hne.2.1) _, ownsRow_setCell h8 (fun e => (hnv _ e).1 rfl) _⟩, hle, hne, hnv⟩
theorem WSt.setB0 {E : Wx} {w w' : World} {v v' : Value} (h : WSt E w v w' v') : WSt E w v (w'.setCell ⟨E.B, 0, none⟩ .nilIface) v' := ⟨h.fr.set (Or.inl (Or.inl rfl)) _ _, h.nw⟩
theorem bwrite (E : Wx) (va : Value) (out l : List UInt8) (g o m cap : Nat) (w : World) (h : Wr E w va out) (hm : m = l.length) (hmc : m <= cap) (hL : Lies w g o l) (hg : ¬ E.own va g) (hgw : g < w.heap.size) (hl : out.length + m <= 1099511627776) :
  Calls Tryz.prog 104 #[.pointer (some ⟨E.B, 0, none⟩), .slice (some ⟨g, o, none⟩) m cap] w fun e w' => e = .returned (.tuple #[.int .i64 m, .nilIface]) /\ ∃ va', WSt E w va w' va' /\ Wr E w' va' (out ++ l) := by
 obtain ⟨n0, hp0⟩ := h.parts
 have hgo : ∀ (w' : World) (va' : Value), WSt E w va w' va' -> ¬ E.own va' g := fun w' va' hs hx => (hs.own g hx).elim hg (fun h => by omega)
 replace hgo := zz hgo
 replace hp0 := zz hp0
 replace hL := zz hL
 clear h hg
 go_enter Tryz.func104, Tryz.ntmps104
 go_wp2
 go_loopg [1, 4] (2 * m + n0) (fun q u1 u4 wr => ∃ (r done : List UInt8) (va1 : Value) (n o1 m1 cap1 dl : Nat), u1 = .slice (some ⟨g, o1, none⟩) m1 cap1 /\ u4 = .int .i64 dl /\ done ++ r = l /\ dl = done.length /\ q = 2 * m1 + n /\ m1 = r.length /\ m1 <= cap1 /\ Lies wr g o1 r /\ Wp E wr va1 (out ++ done) n /\ WSt E w va wr va1)
 case atStart => exact ⟨l, [], va, n0, o, m, cap, 0, rfl, rfl, rfl, rfl, rfl, hm, hmc, hL.out, by rw [List.append_nil]; exact hp0.out, WSt.refl E w va⟩
 case round =>
  obtain ⟨r, done, va1, n, o1, m1, cap1, dl, rfl, rfl, hdr, hdl, rfl, hm1, hmc1, hlr, hp, hS⟩ := hrel
  clear hp0 hL
  have hrs : done.length + r.length = m := by rw [hm, <- hdr, List.length_append]
  have hdlm : dl + m1 = m := by omega
  have hmd := hdlm
  replace hm := zz hm
  have hol : (out ++ done).length <= 1099511627776 := by rw [List.length_append]; omega
  obtain ⟨c0, c1, c2, c3, f2⟩ := hp.cells
  have hle := hp.le
  obtain ⟨aa, bb, cells, _, _, _, hcells, hcs, _⟩ := hp.ex
  have hBB := hp.ne.1
  have hBB' := Ne.symm hBB
  have hav := avail_do E.B n _ wr hp.le c1 c2
  have hbuf := fun k => buffered_do E.B n (wr.drewN k) c2
  by_cases hfit : m1 <= 4096 - n
  ·have hf1 : ¬ (((4096 - n : Nat) : Int) < (m1 : Int)) := by omega
   by_cases hn : n < 4096
   ·have hcp := fun k => copy_sl E.BB n (4096 - n) cells g o1 m1 cap1 r (wr.drewN k) hcells hcs (hlr.keep ((Fr.refl (fun _ => False) wr).drewN k) (fun h => h)) hm1 (by omega) (by omega)
    have hn2 : (n : Int) <= 4096 := by omega
    have hnf : ¬ (4096 = n) := by omega
    have hk2 : ∀ k, ((wr.drewN k).setRow E.BB (cpA cells n r)).cell? ⟨E.B, 2, none⟩ = some (.int .i64 n) /\ ((wr.drewN k).setRow E.BB (cpA cells n r)).frozen? ⟨E.B, 2, none⟩ = false := fun k => by
     obtain ⟨_, _, _, _, _, hb, _⟩ := hp.ex
     have h1 := Blk.setRow_ne (w := wr.drewN k) hb hBB (cpA cells n r)
     exact ⟨by rw [h1.cell]; rfl, h1.fz 2⟩
    have hsum : IntKind.i64.wrap ((n : Int) + (m1 : Int)) = (n : Int) + (m1 : Int) := by rw [IntWalk.i64_in _ (by omega)]
    have hsum2 : IntKind.i64.wrap ((dl : Int) + (m1 : Int)) = (m : Int) := by rw [IntWalk.i64_in _ (by omega)]; omega
    have hk3 := fun k => (hk2 k).1
    have hk4 := fun k => (hk2 k).2
    have hfin : ∀ k, Wp E (((wr.drewN k).setRow E.BB (cpA cells n r)).setCell ⟨E.B, 2, none⟩ (.int .i64 ((n : Int) + (m1 : Int)))) va1 ((out ++ done) ++ r) (n + r.length) /\ WSt E wr va1 (((wr.drewN k).setRow E.BB (cpA cells n r)).setCell ⟨E.B, 2, none⟩ (.int .i64 ((n : Int) + (m1 : Int)))) va1 := fun k => by
     have := hp.copy cells hcells k n r (Or.inl rfl) (by omega) (by omega)
     have e : ((n + r.length : Nat) : Int) = (n : Int) + (m1 : Int) := by omega
     rw [e] at this
     exact this
    generalize hAV : 4096 - n = av at hav hf1
    replace hAV := zz hAV
    replace hfin := zz hfin
    replace hS := zz hS
    replace hdr := zz hdr
    replace hm1 := zz hm1
    replace hdl := zz hdl
    clear hp hk2 hcells hbuf hfit hlr hdlm hmd
    go_wp2_with (go_at_call 147; refine hav.mono ?_; rintro e w1 ⟨rfl, k, rfl⟩)
    refine wp_region_tail 10 [] [0, 1, 2, 3, 4, 5, 6, 7, 8, 9] (by kernel_rfl) (by kernel_rfl) (fun _ _ _ _ _ h => h) ?_
    simp only [List.filterMap_cons, List.filterMap_nil, List.getElem?_toArray, List.getElem?_cons_zero, List.getElem?_cons_succ, List.nil_append, List.cons_append, List.drop_succ_cons, List.drop_zero]
    repeat still_step
    refine wpStill_nil ?_
    go_wp2
    go_ret2
    exact ⟨rfl, va1, hS.out.trans (hfin.out _).2, by have := (hfin.out (k + 1)).1.wr; rw [List.append_assoc, hdr.out] at this; exact this⟩
   ·have hnf : n = 4096 := by omega
    subst hnf
    have hcp := fun k => copy_sl E.BB 0 0 cells g o1 m1 cap1 r (wr.drewN k) hcells hcs (hlr.keep ((Fr.refl (fun _ => False) wr).drewN k) (fun h => h)) hm1 (by omega) (by omega)
    have hk2 : ∀ k, ((wr.drewN k).setRow E.BB (cpA cells 0 r)).cell? ⟨E.B, 2, none⟩ = some (.int .i64 4096) /\ ((wr.drewN k).setRow E.BB (cpA cells 0 r)).frozen? ⟨E.B, 2, none⟩ = false := fun k => by
     obtain ⟨_, _, _, _, _, hb, _⟩ := hp.ex
     have h1 := Blk.setRow_ne (w := wr.drewN k) hb hBB (cpA cells 0 r)
     exact ⟨by rw [h1.cell]; rfl, h1.fz 2⟩
    have hsum : IntKind.i64.wrap ((4096 : Int) + (m1 : Int)) = (4096 : Int) + (m1 : Int) := by rw [IntWalk.i64_in _ (by omega)]
    have hsum2 : IntKind.i64.wrap ((dl : Int) + (m1 : Int)) = (m : Int) := by rw [IntWalk.i64_in _ (by omega)]; omega
    have hk3 := fun k => (hk2 k).1
    have hk4 := fun k => (hk2 k).2
    have hfin : ∀ k, Wp E (((wr.drewN k).setRow E.BB (cpA cells 0 r)).setCell ⟨E.B, 2, none⟩ (.int .i64 ((4096 : Int) + (m1 : Int)))) va1 ((out ++ done) ++ r) (4096 + r.length) /\ WSt E wr va1 (((wr.drewN k).setRow E.BB (cpA cells 0 r)).setCell ⟨E.B, 2, none⟩ (.int .i64 ((4096 : Int) + (m1 : Int)))) va1 := fun k => by
     have := hp.copy cells hcells k 0 r (Or.inr (List.length_eq_zero_iff.1 (by omega))) (by omega) (by omega)
     have e : ((4096 + r.length : Nat) : Int) = (4096 : Int) + (m1 : Int) := by omega
     rw [e] at this
     exact this
    generalize hAV : 4096 - 4096 = av at hav hf1
    replace hAV := zz hAV
    replace hfin := zz hfin
    replace hS := zz hS
    replace hdr := zz hdr
    replace hm1 := zz hm1
    replace hdl := zz hdl
    clear hp hk2 hcells hbuf hfit hlr hdlm hmd
    go_wp2_with (go_at_call 147; refine hav.mono ?_; rintro e w1 ⟨rfl, k, rfl⟩)
    refine wp_region_tail 10 [] [0, 1, 2, 3, 4, 5, 6, 7, 8, 9] (by kernel_rfl) (by kernel_rfl) (fun _ _ _ _ _ h => h) ?_
    simp only [List.filterMap_cons, List.filterMap_nil, List.getElem?_toArray, List.getElem?_cons_zero, List.getElem?_cons_succ, List.nil_append, List.cons_append, List.drop_succ_cons, List.drop_zero]
    repeat still_step
    refine wpStill_nil ?_
    go_wp2
    go_ret2
    exact ⟨rfl, va1, hS.out.trans (hfin.out _).2, by have := (hfin.out (k + 1)).1.wr; rw [List.append_assoc, hdr.out] at this; exact this⟩
  ·have hf1 : ((4096 - n : Nat) : Int) < (m1 : Int) := by omega
   by_cases hn0 : n = 0
   ·by_cases hce0 : cap1 = m1
    ·subst hn0
     have hwc := hp.direct r hm1 (by omega)
     obtain ⟨aa', hcall⟩ := hwc g o1 cap1 hlr (by rw [List.length_append]; omega)
     have hmt := fun w => method_write ⟨E.W, 0, none⟩ w
     have hsum2 : IntKind.i64.wrap ((dl : Int) + (m1 : Int)) = (m : Int) := by rw [IntWalk.i64_in _ (by omega)]; omega
     have hlo : m1 <= cap1 := by omega
     have hlo2 : (m1 : Int) <= (m1 : Int) := by omega
     have hce : cap1 = m1 := by omega
     have hmm : 2 * 0 + 0 < 2 * m1 + 0 := by omega
     generalize hAV : 4096 - 0 = av at hav hf1
     replace hAV := zz hAV
     replace hcall := zz hcall
     replace hS := zz hS
     replace hdr := zz hdr
     replace hdl := zz hdl
     replace hm1 := zz hm1
     replace hmm := zz hmm
     subst hce
     clear hp hcells hfit hlr hrs hol hle
     go_wp2_with (first | (go_at_call 147; refine hav.mono ?_; rintro e w1 ⟨rfl, k, rfl⟩) | (go_at_call 59; refine (hbuf _).mono ?_; rintro e w2 ⟨rfl, rfl⟩) | (go_at_call 217; refine (hcall.out _).mono ?_; rintro e w3 ⟨rfl, e0, q0, k3⟩))
     go_roundg (2 * 0 + 0)
     case measure => exact hmm.out
     case rel =>
      obtain ⟨va', k4, k5⟩ := k3.out
      refine ⟨[], done ++ r, va', 0, o1, 0, 0, m, rfl, rfl, by rw [List.append_nil]; exact hdr.out, by rw [List.length_append, <- hdl.out, <- hm1.out]; omega, rfl, rfl, by omega, fun i c hc => by simp at hc, ?_, ?_⟩
      ·rw [<- List.append_assoc]
       exact k5.setB0
      ·exact (hS.out.trans k4).setB0
    ·subst hn0
     have hwc := hp.direct r hm1 (by omega)
     obtain ⟨aa', hcall⟩ := hwc g o1 cap1 hlr (by rw [List.length_append]; omega)
     have hmt := fun w => method_write ⟨E.W, 0, none⟩ w
     have hsum2 : IntKind.i64.wrap ((dl : Int) + (m1 : Int)) = (m : Int) := by rw [IntWalk.i64_in _ (by omega)]; omega
     have hlo : m1 <= cap1 := by omega
     have hlo2 : (m1 : Int) <= (m1 : Int) := by omega
     have hce : ¬ (cap1 = m1) := by omega
     have hmm : 2 * 0 + 0 < 2 * m1 + 0 := by omega
     generalize hAV : 4096 - 0 = av at hav hf1
     replace hAV := zz hAV
     replace hcall := zz hcall
     replace hS := zz hS
     replace hdr := zz hdr
     replace hdl := zz hdl
     replace hm1 := zz hm1
     replace hmm := zz hmm
     clear hp hcells hfit hlr hrs hol hle
     go_wp2_with (first | (go_at_call 147; refine hav.mono ?_; rintro e w1 ⟨rfl, k, rfl⟩) | (go_at_call 59; refine (hbuf _).mono ?_; rintro e w2 ⟨rfl, rfl⟩) | (go_at_call 217; refine (hcall.out _).mono ?_; rintro e w3 ⟨rfl, e0, q0, k3⟩))
     go_roundg (2 * 0 + 0)
     case measure => exact hmm.out
     case rel =>
      obtain ⟨va', k4, k5⟩ := k3.out
      refine ⟨[], done ++ r, va', 0, (o1 + m1), 0, (cap1 - m1), m, rfl, rfl, by rw [List.append_nil]; exact hdr.out, by rw [List.length_append, <- hdl.out, <- hm1.out]; omega, rfl, rfl, by omega, fun i c hc => by simp at hc, ?_, ?_⟩
      ·rw [<- List.append_assoc]
       exact k5.setB0
      ·exact (hS.out.trans k4).setB0
   ·by_cases hn : n < 4096
    ·have hz : ((n : Int) == 0) = false := by rw [beq_eq_false_iff_ne]; omega
     have hnf : ¬ (4096 = n) := by omega
     have hn2 : (n : Int) <= 4096 := by omega
     have hdr2 : Hid ((done ++ (r.take (4096 - n))) ++ (r.drop (4096 - n)) = l) := zz (by rw [List.append_assoc, List.take_append_drop]; exact hdr)
     have hlr2 : Lies wr g (o1 + (4096 - n)) (r.drop (4096 - n)) := by have h := hlr; rw [<- List.take_append_drop (4096 - n) r] at h; have h2 := h.drop; rw [List.length_take, Nat.min_eq_left (by omega)] at h2; exact h2
     have hcp := fun k => copy_sl_min E.BB n (4096 - n) cells g o1 m1 cap1 r (wr.drewN k) hcells hcs (hlr.keep ((Fr.refl (fun _ => False) wr).drewN k) (fun h => h)) hm1 (by omega) (by omega)
     have hk2 : ∀ k, ((wr.drewN k).setRow E.BB (cpA cells n (r.take (4096 - n)))).cell? ⟨E.B, 2, none⟩ = some (.int .i64 n) /\ ((wr.drewN k).setRow E.BB (cpA cells n (r.take (4096 - n)))).frozen? ⟨E.B, 2, none⟩ = false := fun k => by
      obtain ⟨_, _, _, _, _, hb, _⟩ := hp.ex
      have h1 := Blk.setRow_ne (w := wr.drewN k) hb hBB (cpA cells n (r.take (4096 - n)))
      exact ⟨by rw [h1.cell]; rfl, h1.fz 2⟩
     have hsum : IntKind.i64.wrap ((n : Int) + (((4096 - n) : Nat) : Int)) = 4096 := by rw [IntWalk.i64_in _ (by omega)]; omega
     obtain ⟨DL, hDL⟩ : ∃ DL, DL = (done ++ (r.take (4096 - n))).length := ⟨_, rfl⟩
     have htk : (r.take (4096 - n)).length = (4096 - n) := by rw [List.length_take]; omega
     have hsum2 : IntKind.i64.wrap ((dl : Int) + (((4096 - n) : Nat) : Int)) = (DL : Int) := by rw [IntWalk.i64_in _ (by omega), hDL, List.length_append, htk]; omega
     have hlo : ((4096 - n) : Nat) <= m1 := by omega
     have hlo2 : ((((4096 - n) : Nat) : Nat) : Int) <= (m1 : Int) := by omega
     have hce : ¬ (cap1 = (4096 - n)) := by omega
     have hk3 := fun k => (hk2 k).1
     have hk4 := fun k => (hk2 k).2
     have hfl : ∀ k, Calls Tryz.prog 63 #[.pointer (some ⟨E.B, 0, none⟩)] (((wr.drewN k).setRow E.BB (cpA cells n (r.take (4096 - n)))).setCell ⟨E.B, 2, none⟩ (.int .i64 4096)) fun e w' => e = .returned .nilIface /\ Hid (∃ va', WSt E wr va1 w' va' /\ Wp E w' va' (out ++ (done ++ (r.take (4096 - n)))) 0) := fun k => by
      have hc := hp.copy cells hcells k n (r.take (4096 - n)) (Or.inl rfl) (by rw [htk]; omega) (by rw [htk]; omega)
      have e : ((n + (r.take (4096 - n)).length : Nat) : Int) = 4096 := by rw [htk]; omega
      rw [e] at hc
      refine (flush_p E va1 _ _ _ hc.1 (by rw [List.length_append, List.length_append, htk]; omega)).mono ?_
      rintro e w' ⟨rfl, va', k1, k2⟩
      rw [List.append_assoc] at k2
      exact ⟨rfl, va', hc.2.trans k1, k2⟩
     have hmeas : 2 * (m1 - (4096 - n)) + 0 < 2 * m1 + n := by omega
     have hlen2 : (m1 - (4096 - n)) = (r.drop (4096 - n)).length /\ (m1 - (4096 - n)) <= (cap1 - (4096 - n)) := by exact ⟨by rw [List.length_drop]; omega, by omega⟩
     generalize hAV : 4096 - n = av at hav hf1
     replace hAV := zz hAV
     replace hfl := zz hfl
     replace hS := zz hS
     replace hDL := zz hDL
     replace hmeas := zz hmeas
     replace hlr2 := zz hlr2
     replace hlen2 := zz hlen2
     replace hm1 := zz hm1
     replace hdl := zz hdl
     clear hp hk2 hcells hfit hdr htk hrs hol hle hlr hdlm
     go_wp2_with (first | (go_at_call 147; refine hav.mono ?_; rintro e w1 ⟨rfl, k, rfl⟩) | (go_at_call 59; refine (hbuf _).mono ?_; rintro e w2 ⟨rfl, rfl⟩))
     refine wp_region_tail 10 [] [0, 1, 2, 3, 4, 5, 6, 7, 8, 9] (by kernel_rfl) (by kernel_rfl) (fun _ _ _ _ _ h => h) ?_
     simp only [List.filterMap_cons, List.filterMap_nil, List.getElem?_toArray, List.getElem?_cons_zero, List.getElem?_cons_succ, List.nil_append, List.cons_append, List.drop_succ_cons, List.drop_zero]
     repeat still_step
     refine wpStill_nil ?_
     go_wp2_with (go_at_call 63; refine (hfl.out _).mono ?_; rintro e w3 ⟨rfl, k3⟩)
     go_roundg (2 * (m1 - (4096 - n)) + 0)
     case measure => exact hmeas.out
     case rel =>
      obtain ⟨va', k4, k5⟩ := k3.out
      exact ⟨(r.drop (4096 - n)), done ++ (r.take (4096 - n)), va', 0, (o1 + (4096 - n)), (m1 - (4096 - n)), (cap1 - (4096 - n)), DL, rfl, rfl, hdr2.out, hDL.out, rfl, hlen2.out.1, hlen2.out.2, hlr2.out.keep k4.fr (fun hx => hgo.out _ _ hS.out hx), k5, hS.out.trans k4⟩
    ·have hnf : n = 4096 := by omega
     subst hnf
     have hdr2 : Hid ((done ++ ([] : List UInt8)) ++ r = l) := zz (by rw [List.append_nil]; exact hdr)
     have hlr2 : Lies wr g o1 r := hlr
     have hcp := fun k => (by have := copy_sl_min E.BB 0 0 cells g o1 m1 cap1 r (wr.drewN k) hcells hcs (hlr.keep ((Fr.refl (fun _ => False) wr).drewN k) (fun h => h)) hm1 (by omega) (by omega); rw [List.take_zero] at this; exact this : (Builtin.copy_ #[56, 56] 3 #[.slice (some ⟨E.BB, 0, none⟩) 0 0, .slice (some ⟨g, o1, none⟩) m1 cap1]).run Tryz.prog (wr.drewN k) = .ok (goInt (((0 : Nat) : Nat) : Int)) ((wr.drewN k).setRow E.BB (cpA cells 0 ([] : List UInt8))))
     have hk2 : ∀ k, ((wr.drewN k).setRow E.BB (cpA cells 0 ([] : List UInt8))).cell? ⟨E.B, 2, none⟩ = some (.int .i64 4096) /\ ((wr.drewN k).setRow E.BB (cpA cells 0 ([] : List UInt8))).frozen? ⟨E.B, 2, none⟩ = false := fun k => by
      obtain ⟨_, _, _, _, _, hb, _⟩ := hp.ex
      have h1 := Blk.setRow_ne (w := wr.drewN k) hb hBB (cpA cells 0 ([] : List UInt8))
      exact ⟨by rw [h1.cell]; rfl, h1.fz 2⟩
     have hsum : IntKind.i64.wrap ((4096 : Int) + ((0 : Nat) : Int)) = 4096 := by rw [IntWalk.i64_in _ (by omega)]; omega
     obtain ⟨DL, hDL⟩ : ∃ DL, DL = (done ++ ([] : List UInt8)).length := ⟨_, rfl⟩
     have htk : ([] : List UInt8).length = 0 := by rfl
     have hsum2 : IntKind.i64.wrap ((dl : Int)) = (DL : Int) := by rw [IntWalk.i64_in _ (by omega), hDL, List.length_append, htk]; omega
     have hlo : (0 : Nat) <= m1 := by omega
     have hlo2 : (((0 : Nat) : Nat) : Int) <= (m1 : Int) := by omega
     have hk3 := fun k => (hk2 k).1
     have hk4 := fun k => (hk2 k).2
     have hfl : ∀ k, Calls Tryz.prog 63 #[.pointer (some ⟨E.B, 0, none⟩)] (((wr.drewN k).setRow E.BB (cpA cells 0 ([] : List UInt8))).setCell ⟨E.B, 2, none⟩ (.int .i64 4096)) fun e w' => e = .returned .nilIface /\ Hid (∃ va', WSt E wr va1 w' va' /\ Wp E w' va' (out ++ (done ++ ([] : List UInt8))) 0) := fun k => by
      have hc := hp.copy cells hcells k 0 ([] : List UInt8) (Or.inr rfl) (by rw [htk]; omega) (by rw [htk]; omega)
      have e : ((4096 + ([] : List UInt8).length : Nat) : Int) = 4096 := by rw [htk]; omega
      rw [e] at hc
      refine (flush_p E va1 _ _ _ hc.1 (by rw [List.length_append, List.length_append, htk]; omega)).mono ?_
      rintro e w' ⟨rfl, va', k1, k2⟩
      rw [List.append_assoc] at k2
      exact ⟨rfl, va', hc.2.trans k1, k2⟩
     have hmeas : 2 * m1 + 0 < 2 * m1 + 4096 := by omega
     have hlen2 : m1 = r.length /\ m1 <= cap1 := by exact ⟨hm1, by omega⟩
     generalize hAV : 4096 - 4096 = av at hav hf1
     replace hAV := zz hAV
     replace hfl := zz hfl
     replace hS := zz hS
     replace hDL := zz hDL
     replace hmeas := zz hmeas
     replace hlr2 := zz hlr2
     replace hlen2 := zz hlen2
     replace hm1 := zz hm1
     replace hdl := zz hdl
     clear hp hk2 hcells hfit hdr htk hrs hol hle hlr hdlm
     go_wp2_with (first | (go_at_call 147; refine hav.mono ?_; rintro e w1 ⟨rfl, k, rfl⟩) | (go_at_call 59; refine (hbuf _).mono ?_; rintro e w2 ⟨rfl, rfl⟩))
     refine wp_region_tail 10 [] [0, 1, 2, 3, 4, 5, 6, 7, 8, 9] (by kernel_rfl) (by kernel_rfl) (fun _ _ _ _ _ h => h) ?_
     simp only [List.filterMap_cons, List.filterMap_nil, List.getElem?_toArray, List.getElem?_cons_zero, List.getElem?_cons_succ, List.nil_append, List.cons_append, List.drop_succ_cons, List.drop_zero]
     repeat still_step
     refine wpStill_nil ?_
     go_wp2_with (go_at_call 63; refine (hfl.out _).mono ?_; rintro e w3 ⟨rfl, k3⟩)
     go_roundg (2 * m1 + 0)
     case measure => exact hmeas.out
     case rel =>
      obtain ⟨va', k4, k5⟩ := k3.out
      exact ⟨r, done ++ ([] : List UInt8), va', 0, o1, m1, cap1, DL, rfl, rfl, hdr2.out, hDL.out, rfl, hlen2.out.1, hlen2.out.2, hlr2.out.keep k4.fr (fun hx => hgo.out _ _ hS.out hx), k5, hS.out.trans k4⟩
end
section
open Go.RowKit
structure Iv where
 d : Nat
 inn : Bool
 nl : Bool
def rep (x : List UInt8) : Nat -> List UInt8
 | 0 => []
 | n + 1 => rep x n ++ x
theorem rep_len (x : List UInt8) (n : Nat) : (rep x n).length = n * x.length := by
 induction n with
 | zero => simp [rep]
 | succ n ih => simp only [rep, List.length_append, ih, Nat.succ_mul]
def lead (pre ind : List UInt8) (nl : Bool) (d : Nat) : List UInt8 := (if nl then [10] else []) ++ (pre ++ rep ind d)
structure Px where
 P : Nat
 E : Wx
 pre : List UInt8
 ind : List UInt8
 iv : Iv
def Px.at (X : Px) (i : Iv) : Px := { X with iv := i }
structure Pv where
 va : Value
 pv : Value
 tv : Value
def prA (X : Px) (v : Pv) (cl : Bool) : Array Value := #[.pointer (some ⟨X.E.B, 0, none⟩), .pointer (some ⟨X.P, 0, none⟩), .int .i64 0, .string ⟨X.ind.toArray⟩, .string ⟨X.pre.toArray⟩, .int .i64 X.iv.d, .bool X.iv.inn, .bool X.iv.nl, .map none, .map none, v.pv, v.tv, .bool cl, .nilIface]
def tagCells (tags : List ByteArray) : List Value := tags.flatMap fun t => [.string ⟨#[]⟩, .string t]
theorem tagCells_len (tags : List ByteArray) : (tagCells tags).length = tags.length * 2 := by
 induction tags with
 | nil => rfl
 | cons t tags ih =>
  have : tagCells (t :: tags) = [.string ⟨#[]⟩, .string t] ++ tagCells tags := rfl
  rw [this, List.length_append, ih, List.length_cons]; simp; omega
theorem tagCells_app (a b : List ByteArray) : tagCells (a ++ b) = tagCells a ++ tagCells b := by simp [tagCells]
def Px.own (X : Px) (v : Pv) (x : Nat) : Prop := x = X.P \/ X.E.own v.va x \/ v.pv.ownBlock = some x \/ v.tv.ownBlock = some x
structure Pr (X : Px) (w : World) (v : Pv) (cl : Bool) (out : List UInt8) (tags : List ByteArray) : Prop where
 D : Blk w X.P (prA X v cl) 103
 W : Wr X.E w v.va out
 pf : w.ownsRow 0 9 1 v.pv tags.length (List.replicate tags.length (.string ⟨#[]⟩))
 tg : w.ownsRow 0 105 2 v.tv tags.length (tagCells tags)
 nP : ¬ X.E.own v.va X.P
 np : ∀ k, v.pv.ownBlock = some k -> k ≠ X.P /\ ¬ X.E.own v.va k
 nt : ∀ k, v.tv.ownBlock = some k -> k ≠ X.P /\ ¬ X.E.own v.va k /\ v.pv.ownBlock ≠ some k
structure PSt (X : Px) (w : World) (v : Pv) (w' : World) (v' : Pv) : Prop where
 fr : Fr (X.own v) w w'
 nw : ∀ x, X.own v' x -> X.own v x \/ w.heap.size <= x
theorem PSt.refl (X : Px) (w : World) (v : Pv) : PSt X w v w v := ⟨Fr.refl _ w, fun _ h => .inl h⟩
theorem PSt.trans {X : Px} {w w1 w2 : World} {v v1 v2 : Pv} (h : PSt X w v w1 v1) (k : PSt X w1 v1 w2 v2) : PSt X w v w2 v2 :=
 ⟨h.fr.trans k.fr (fun x hx => h.nw x hx), fun x hx => (k.nw x hx).elim (fun h1 => h.nw x h1) (fun h1 => .inr (Nat.le_trans h.fr.size h1))⟩
theorem PSt.drewN {X : Px} {w w' : World} {v v' : Pv} (h : PSt X w v w' v') (n : Nat) : PSt X w v (w'.drewN n) v' := ⟨h.fr.drewN n, h.nw⟩
theorem PSt.drew {X : Px} {w w' : World} {v v' : Pv} (h : PSt X w v w' v') : PSt X w v w'.drew v' := ⟨h.fr.drew, h.nw⟩
theorem PSt.ofOld {X : Px} {w w' : World} (v : Pv) (h : Old w w') : PSt X w v w' v := ⟨Fr.of_old h, fun _ h => .inl h⟩
theorem PSt.old {X : Px} {w w' w'' : World} {v v' : Pv} (h : PSt X w v w' v') (k : Old w' w'') : PSt X w v w'' v' := ⟨h.fr.old k, h.nw⟩
theorem Pr.lt {X : Px} {w : World} {v : Pv} {cl : Bool} {out : List UInt8} {tags : List ByteArray} (h : Pr X w v cl out tags) : ∀ x, X.own v x -> x < w.heap.size := by
 rintro x (rfl | hx | hx | hx)
 ·exact h.D.lt
 ·exact h.W.lt x hx
 ·exact ownsRow_lt h.pf hx
 ·exact ownsRow_lt h.tg hx
theorem Pr.keep {F : Nat -> Prop} {X : Px} {w w' : World} {v : Pv} {cl : Bool} {out : List UInt8} {tags : List ByteArray} (h : Pr X w v cl out tags) (f : Fr F w w') (hF : ∀ x, X.own v x -> ¬ F x) : Pr X w' v cl out tags :=
 ⟨h.D.keep f (hF _ (.inl rfl)), h.W.keep f (fun x hx => hF x (.inr (.inl hx))), ownsRow_frame h.pf f (fun k hk => hF k (.inr (.inr (.inl hk)))), ownsRow_frame h.tg f (fun k hk => hF k (.inr (.inr (.inr hk)))), h.nP, h.np, h.nt⟩
theorem Pr.old {X : Px} {w w' : World} {v : Pv} {cl : Bool} {out : List UInt8} {tags : List ByteArray} (h : Pr X w v cl out tags) (f : Old w w') : Pr X w' v cl out tags := h.keep f (fun _ _ h => h)
theorem Pr.drewN {X : Px} {w : World} {v : Pv} {cl : Bool} {out : List UInt8} {tags : List ByteArray} (h : Pr X w v cl out tags) (n : Nat) : Pr X (w.drewN n) v cl out tags := h.old ((Fr.refl _ w).drewN n)
theorem Pr.drew {X : Px} {w : World} {v : Pv} {cl : Bool} {out : List UInt8} {tags : List ByteArray} (h : Pr X w v cl out tags) : Pr X w.drew v cl out tags := h.old (Fr.refl _ w).drew
theorem Pr.step {X : Px} {w w' : World} {v : Pv} {va' : Value} {cl : Bool} {out out' : List UInt8} {tags : List ByteArray} (h : Pr X w v cl out tags) (s : WSt X.E w v.va w' va') (k : Wr X.E w' va' out') :
  Pr X w' ⟨va', v.pv, v.tv⟩ cl out' tags /\ PSt X w v w' ⟨va', v.pv, v.tv⟩ := by
 have hno : ∀ x, ¬ X.E.own v.va x -> x < w.heap.size -> ¬ X.E.own va' x := fun x hx hl h' => (s.own x h').elim hx (fun h => by omega)
 refine ⟨⟨h.D.keep s.fr h.nP, k, ownsRow_frame h.pf s.fr (fun k hk => (h.np k hk).2), ownsRow_frame h.tg s.fr (fun k hk => (h.nt k hk).2.1), hno _ h.nP h.D.lt, fun k hk => ⟨(h.np k hk).1, hno _ (h.np k hk).2 (ownsRow_lt h.pf hk)⟩, fun k hk => ⟨(h.nt k hk).1, hno _ (h.nt k hk).2.1 (ownsRow_lt h.tg hk), (h.nt k hk).2.2⟩⟩, s.fr.mono (fun x hx => Or.inl (Or.inr (Or.inl hx))), ?_⟩
 rintro x (hx | hx | hx | hx)
 ·exact .inl (.inl hx)
 ·exact (s.own x hx).imp (fun h => .inr (.inl h)) id
 ·exact .inl (.inr (.inr (.inl hx)))
 ·exact .inl (.inr (.inr (.inr hx)))
theorem Pr.set13 {X : Px} {w : World} {v : Pv} {cl : Bool} {out : List UInt8} {tags : List ByteArray} (h : Pr X w v cl out tags) : Pr X (w.setCell ⟨X.P, 13, none⟩ .nilIface) v cl out tags := by
 have f : Fr (fun x => x = X.P) w (w.setCell ⟨X.P, 13, none⟩ .nilIface) := (Fr.refl (fun x => x = X.P) w).set (Or.inl rfl) _ _
 exact ⟨h.D.set 13 .nilIface, h.W.keep f (fun x hx e => h.nP (e ▸ hx)), ownsRow_frame h.pf f (fun k hk => (h.np k hk).1), ownsRow_frame h.tg f (fun k hk => (h.nt k hk).1), h.nP, h.np, h.nt⟩
theorem Pr.put {X X2 : Px} {w : World} {v : Pv} {cl : Bool} {out : List UInt8} {tags : List ByteArray} (h : Pr X w v cl out tags) (i : Nat) (u : Value) (hu : (prA X v cl).setIfInBounds i u = prA X2 v cl) (hp : X2.P = X.P) (he : X2.E = X.E) : Pr X2 (w.setCell ⟨X.P, i, none⟩ u) v cl out tags := by
 obtain ⟨P, E, pre, ind, iv⟩ := X
 obtain ⟨P2, E2, pre2, ind2, iv2⟩ := X2
 dsimp only at hp he
 subst hp he
 have f : Fr (fun x => x = P2) w (w.setCell ⟨P2, i, none⟩ u) := (Fr.refl (fun x => x = P2) w).set (Or.inl rfl) _ _
 have D := h.D.set i u
 rw [hu] at D
 exact ⟨D, h.W.keep f (fun x hx e => h.nP (e ▸ hx)), ownsRow_frame h.pf f (fun k hk => (h.np k hk).1), ownsRow_frame h.tg f (fun k hk => (h.nt k hk).1), h.nP, h.np, h.nt⟩
theorem PSt.set {X : Px} {w w' : World} {v v' : Pv} (h : PSt X w v w' v') (i : Nat) (u : Value) : PSt X w v (w'.setCell ⟨X.P, i, none⟩ u) v' := ⟨h.fr.set (Or.inl (Or.inl rfl)) _ _, h.nw⟩
theorem Pr.cells {X : Px} {w : World} {v : Pv} {cl : Bool} {out : List UInt8} {tags : List ByteArray} (h : Pr X w v cl out tags) : w.cell? ⟨X.P, 0, none⟩ = some (.pointer (some ⟨X.E.B, 0, none⟩)) /\ w.cell? ⟨X.P, 3, none⟩ = some (.string ⟨X.ind.toArray⟩) /\ w.cell? ⟨X.P, 4, none⟩ = some (.string ⟨X.pre.toArray⟩) /\ w.cell? ⟨X.P, 10, none⟩ = some v.pv /\ w.cell? ⟨X.P, 11, none⟩ = some v.tv /\ w.cell? ⟨X.P, 12, none⟩ = some (.bool cl) /\ w.cell? ⟨X.P, 13, none⟩ = some .nilIface /\ ∀ i, w.frozen? ⟨X.P, i, none⟩ = false :=
 ⟨by rw [h.D.cell]; rfl, by rw [h.D.cell]; rfl, by rw [h.D.cell]; rfl, by rw [h.D.cell]; rfl, by rw [h.D.cell]; rfl, by rw [h.D.cell]; rfl, by rw [h.D.cell]; rfl, h.D.fz⟩
def Prints (X : Px) (w : World) (v : Pv) (out : List UInt8) (tags : List ByteArray) (l : List UInt8) (w' : World) : Prop :=
 ∃ va', PSt X w v w' ⟨va', v.pv, v.tv⟩ /\ Pr X w' ⟨va', v.pv, v.tv⟩ false (out ++ l) tags
section
variable (X : Px) (v : Pv) (out : List UInt8) (tags : List ByteArray) (w : World) (h : Pr X w v false out tags)
include h
theorem pbyte (c : UInt8) (hl : out.length <= 1099511627776) :
  Calls Tryz.prog 61 #[.pointer (some ⟨X.P, 0, none⟩), .int .u8 c.toNat] w fun e w' => e = .returned .nilIface /\ Prints X w v out tags [c] w' := by
 obtain ⟨c0, _, _, _, _, c12, c13, _⟩ := h.cells
 have hc := (bwbyte X.E v.va out c w h.W hl).mono (R' := fun e w1 => e = .returned .nilIface /\ w1.cell? ⟨X.P, 13, none⟩ = some .nilIface /\ w1.frozen? ⟨X.P, 13, none⟩ = false /\ Hid (Prints X w v out tags [c] w1)) (by
  rintro e w1 ⟨rfl, va', s, k⟩
  obtain ⟨h1, h2⟩ := h.step s k
  obtain ⟨_, _, _, _, _, _, k13, kf⟩ := h1.cells
  exact ⟨rfl, k13, kf _, va', h2, h1⟩)
 clear h
 go_enter Tryz.func61, Tryz.ntmps61
 go_wp2_with (go_at_call 109; refine hc.mono ?_; rintro e w1 ⟨rfl, k13, kf, k⟩)
 go_ret
 obtain ⟨va', k1, k2⟩ := k.out
 exact ⟨rfl, va', k1.set 13 _, k2.set13⟩
theorem pstr (s : ByteArray) (hl : out.length + s.size <= 1099511627776) :
  Calls Tryz.prog 56 #[.pointer (some ⟨X.P, 0, none⟩), .string s] w fun e w' => e = .returned (.tuple #[.int .i64 s.size, .nilIface]) /\ Prints X w v out tags s.data.toList w' := by
 obtain ⟨c0, _, _, _, _, c12, c13, _⟩ := h.cells
 have hc := (bwstr X.E v.va out s w h.W hl).mono (R' := fun e w1 => e = .returned (.tuple #[.int .i64 s.size, .nilIface]) /\ w1.cell? ⟨X.P, 13, none⟩ = some .nilIface /\ w1.frozen? ⟨X.P, 13, none⟩ = false /\ Hid (Prints X w v out tags s.data.toList w1)) (by
  rintro e w1 ⟨rfl, va', s', k⟩
  obtain ⟨h1, h2⟩ := h.step s' k
  obtain ⟨_, _, _, _, _, _, k13, kf⟩ := h1.cells
  exact ⟨rfl, k13, kf _, va', h2, h1⟩)
 clear h
 go_enter Tryz.func56, Tryz.ntmps56
 go_wp2_with (go_at_call 103; refine hc.mono ?_; rintro e w1 ⟨rfl, k13, kf, k⟩)
 go_quiet (fail)
 go_wp2
 go_ret2
 obtain ⟨va', k1, k2⟩ := k.out
 refine ⟨rfl, va', ?_, ?_⟩
 ·exact (k1.set 13 _).drewN _
 ·exact k2.set13.drewN _
theorem pwrite (l : List UInt8) (g o m cap : Nat) (hm : m = l.length) (hmc : m <= cap) (hL : Lies w g o l) (hg : ¬ X.E.own v.va g) (hgw : g < w.heap.size) (hl : out.length + m <= 1099511627776) :
  Calls Tryz.prog 57 #[.pointer (some ⟨X.P, 0, none⟩), .slice (some ⟨g, o, none⟩) m cap] w fun e w' => e = .returned (.tuple #[.int .i64 m, .nilIface]) /\ Prints X w v out tags l w' := by
 obtain ⟨c0, _, _, _, _, c12, c13, _⟩ := h.cells
 have hc := (bwrite X.E v.va out l g o m cap w h.W hm hmc hL hg hgw hl).mono (R' := fun e w1 => e = .returned (.tuple #[.int .i64 m, .nilIface]) /\ w1.cell? ⟨X.P, 13, none⟩ = some .nilIface /\ w1.frozen? ⟨X.P, 13, none⟩ = false /\ Hid (Prints X w v out tags l w1)) (by
  rintro e w1 ⟨rfl, va', s, k⟩
  obtain ⟨h1, h2⟩ := h.step s k
  obtain ⟨_, _, _, _, _, _, k13, kf⟩ := h1.cells
  exact ⟨rfl, k13, kf _, va', h2, h1⟩)
 clear h hm hL
 go_enter Tryz.func57, Tryz.ntmps57
 go_wp2_with (go_at_call 104; refine hc.mono ?_; rintro e w1 ⟨rfl, k13, kf, k⟩)
 go_quiet (fail)
 go_wp2
 go_ret2
 obtain ⟨va', k1, k2⟩ := k.out
 refine ⟨rfl, va', ?_, ?_⟩
 ·exact (k1.set 13 _).drewN _
 ·exact k2.set13.drewN _
theorem pnil :
  Calls Tryz.prog 57 #[.pointer (some ⟨X.P, 0, none⟩), .slice none 0 0] w fun e w' => e = .returned (.tuple #[.int .i64 0, .nilIface]) /\ Prints X w v out tags [] w' := by
 obtain ⟨c0, _, _, _, _, c12, c13, _⟩ := h.cells
 have hc := (bwnil X.E v.va out w h.W).mono (R' := fun e w1 => e = .returned (.tuple #[.int .i64 0, .nilIface]) /\ w1.cell? ⟨X.P, 13, none⟩ = some .nilIface /\ w1.frozen? ⟨X.P, 13, none⟩ = false /\ Hid (Prints X w v out tags [] w1)) (by
  rintro e w1 ⟨rfl, s, k⟩
  obtain ⟨h1, h2⟩ := h.step s k
  obtain ⟨_, _, _, _, _, _, k13, kf⟩ := h1.cells
  exact ⟨rfl, k13, kf _, v.va, h2, by rw [List.append_nil]; exact h1⟩)
 clear h
 go_enter Tryz.func57, Tryz.ntmps57
 go_wp2_with (go_at_call 104; refine hc.mono ?_; rintro e w1 ⟨rfl, k13, kf, k⟩)
 go_quiet (fail)
 go_wp2
 go_ret2
 obtain ⟨va', k1, k2⟩ := k.out
 refine ⟨rfl, va', ?_, ?_⟩
 ·exact (k1.set 13 _).drewN _
 ·exact k2.set13.drewN _
theorem pcached :
  Calls Tryz.prog 58 #[.pointer (some ⟨X.P, 0, none⟩)] w fun e w' => e = .returned .nilIface /\ Prints X w v out tags [] w' := by
 have hc := pnil X v out tags w h
 clear h
 go_enter Tryz.func58, Tryz.ntmps58
 go_wp2_with (go_at_call 57; refine hc.mono ?_; rintro e w1 ⟨rfl, k⟩)
 go_ret
 exact ⟨rfl, k⟩
end
end
section
open Go.RowKit
theorem info9 : (Tryz.prog.info? 9).map (fun i => (i.zero, i.size, i.bytes)) = some (some (.string ⟨#[]⟩), 1, 16) := by kernel_rfl
theorem info105 : (Tryz.prog.info? 105).map (fun i => (i.zero, i.size, i.bytes)) = some (some (.agg #[.string ⟨#[]⟩, .string ⟨#[]⟩]), 2, 32) := by kernel_rfl
theorem ownsRow_pop {w : World} {e : TypeId} {size n : Nat} {g cap : Nat} {xs ys : List Value} (h : w.ownsRow 0 e size (.slice (some ⟨g, 0, none⟩) (n + 1) cap) (n + 1) (xs ++ ys)) (hx : xs.length = n * size) : w.ownsRow 0 e size (.slice (some ⟨g, 0, none⟩) n cap) n xs := by
 refine ⟨hx, .inr ?_⟩
 rcases h.2 with ⟨h1, _⟩ | ⟨g', cap', cur, h1, h2, h3, h4, h5, h6, h7⟩
 ·cases h1
 ·injection h1 with h1 _ h8
  injection h1 with h1
  injection h1 with h1
  subst h1; subst h8
  refine ⟨g, cap, cur, rfl, h2, h3, by omega, h5, h6, ?_⟩
  have h9 : (cur.toList.take ((n + 1) * size)).take (n * size) = cur.toList.take (n * size) := by
   rw [List.take_take]; congr 1; exact Nat.min_eq_left (Nat.mul_le_mul_right _ (by omega))
  rw [<- h9, h7, List.take_append_of_le_length (by omega), List.take_of_length_le (by omega)]
theorem ownsRow_some {w : World} {e : TypeId} {size n : Nat} {v : Value} {xs : List Value} (h : w.ownsRow 0 e size v n xs) (hn : 0 < n) : ∃ g cap, v = .slice (some ⟨g, 0, none⟩) n cap /\ n <= cap /\ ∀ j u, xs[j]? = some u -> w.cell? ⟨g, j, none⟩ = some u := by
 rcases h.2 with ⟨_, h1⟩ | ⟨g, cap, cur, rfl, h2, h3, h4, _⟩
 ·omega
 ·refine ⟨g, cap, rfl, h4, fun j u hj => ?_⟩
  have := h.cells (g := g) rfl j u hj
  rw [Lib.addr_add, Nat.zero_add] at this
  exact this
theorem pmark (X : Px) (v : Pv) (out : List UInt8) (n : Nat) (w : World) (hn : n <= 549755813888)
  (D : Blk w X.P (prA X v false) 103) (W : Wr X.E w v.va out) (pf : w.ownsRow 0 9 1 v.pv n (List.replicate n (.string ⟨#[]⟩))) (nP : ¬ X.E.own v.va X.P) (np : ∀ k, v.pv.ownBlock = some k -> k ≠ X.P /\ ¬ X.E.own v.va k) :
  Calls Tryz.prog 95 #[.pointer (some ⟨X.P, 0, none⟩)] w fun e w' => e = .returned (.tuple #[]) /\ ∃ pv', Blk w' X.P (prA X ⟨v.va, pv', v.tv⟩ false) 103 /\ Fr (fun x => x = X.P \/ v.pv.ownBlock = some x) w w' /\ w'.ownsRow 0 9 1 pv' (n + 1) (List.replicate (n + 1) (.string ⟨#[]⟩)) /\ ∀ k, pv'.ownBlock = some k -> v.pv.ownBlock = some k \/ w.heap.size <= k := by
 obtain ⟨i0, hi, hz0, hz1, hz2⟩ := info_parts info9
 have c10 : w.cell? ⟨X.P, 10, none⟩ = some v.pv := by rw [D.cell]; rfl
 have hDl := D.lt
 obtain ⟨pv, hpv⟩ : ∃ pv, pv = v.pv := ⟨_, rfl⟩
 rw [<- hpv] at c10 pf np
 have hP : ¬ (pv.ownBlock = some X.P) := fun h => (np _ h).1 rfl
 replace hpv := zz hpv
 replace D := zz D
 replace pf := zz pf
 clear W np nP
 go_enter Tryz.func95, Tryz.ntmps95
 go_wp2_with (at_builtin; refine wpList_append rfl _ _ 39 rfl 9 i0 _ 1 16 Tryz.underlying39 hi hz0 hz1 hz2 rfl (by decide) pv n _ rfl (ownsRow_frame (F := fun _ => False) pf.out ((Fr.refl _ w).alloc _) (fun _ _ h => h)) _ 1 1 [.string ⟨#[]⟩] rfl rfl (by decide) (news_alloc w [.string ⟨#[]⟩] 9) (by intro u hu; simp at hu; subst hu; rfl) (by unfold maxLen; omega) (by omega) ?_; intro g' c' w1 hrow' hgrow hnb; have f1 : Fr (fun x => pv.ownBlock = some x) w w1 := ((Fr.refl (fun x => pv.ownBlock = some x) w).alloc _).grown hgrow (fun k hk => Or.inl hk); have b1 := D.out.keep f1 hP; have k0 : w1.cell? ⟨X.P, 10, none⟩ = some pv := (by rw [hpv.out, b1.cell]; rfl); have q0 := b1.fz 10; replace hrow' := zz hrow'; replace hnb := zz hnb; replace f1 := zz f1; replace b1 := zz b1; clear hgrow)
 go_end0
 have hnb' : pv.ownBlock = some g' \/ w.heap.size <= g' := hnb.out.imp id (fun h => by simp at h; omega)
 have hg' : g' ≠ X.P := by
  rcases hnb' with h | h
  ·exact fun e => hP (e ▸ h)
  ·omega
 refine ⟨rfl, .slice (some ⟨g', 0, none⟩) (n + 1) c', ?_, ?_, ?_, ?_⟩
 ·have := b1.out.set 10 (.slice (some ⟨g', 0, none⟩) (n + 1) c')
  exact this
 ·rw [<- hpv.out]
  exact (f1.out.mono (F := fun x => pv.ownBlock = some x) (G := fun x => x = X.P \/ pv.ownBlock = some x) (fun x hx => Or.inl (Or.inr hx))).set (Or.inl (Or.inl rfl)) _ _
 ·rw [List.replicate_succ']
  exact ownsRow_setCell hrow'.out (by simp [Value.ownBlock]; exact hg') _
 ·intro k hk
  have hk2 : k = g' := by simpa [Value.ownBlock, eq_comm] using hk
  subst hk2
  rw [<- hpv.out]
  exact hnb'
theorem ppop (X : Px) (v : Pv) (n : Nat) (w : World) (hn : n <= 549755813888)
  (D : Blk w X.P (prA X v false) 103) (pf : w.ownsRow 0 9 1 v.pv (n + 1) (List.replicate (n + 1) (.string ⟨#[]⟩))) (np : ∀ k, v.pv.ownBlock = some k -> k ≠ X.P) :
  Calls Tryz.prog 99 #[.pointer (some ⟨X.P, 0, none⟩)] w fun e w' => e = .returned (.tuple #[]) /\ ∃ pv', Blk w' X.P (prA X ⟨v.va, pv', v.tv⟩ false) 103 /\ Fr (fun x => x = X.P) w w' /\ w'.ownsRow 0 9 1 pv' n (List.replicate n (.string ⟨#[]⟩)) /\ pv'.ownBlock = v.pv.ownBlock := by
 obtain ⟨g, cap, hv, hle, hc⟩ := ownsRow_some pf (by omega)
 have c10 : w.cell? ⟨X.P, 10, none⟩ = some (.slice (some ⟨g, 0, none⟩) (n + 1) cap) := by rw [D.cell, <- hv]; rfl
 have f10 := D.fz 10
 have hgP : g ≠ X.P := np g (by rw [hv]; rfl)
 have cl : w.cell? ⟨g, n, none⟩ = some (.string ⟨#[]⟩) := hc n _ (by simp)
 have e1 : IntKind.i64.wrap (((n + 1 : Nat) : Int) - 1) = (n : Int) := by rw [IntWalk.i64_in _ (by omega)]; omega
 have e2 : (0 : Int) <= (n : Int) := by omega
 have e3 : (n : Int) < ((n + 1 : Nat) : Int) := by omega
 have e4 : (n : Int) <= (cap : Int) := by omega
 have e5 : (0 : Int) < ((n + 1 : Nat) : Int) := by omega
 rw [hv] at pf
 generalize hN : n + 1 = N at c10 e1 e3 e5
 replace hN := zz hN
 replace pf := zz pf
 replace D := zz D
 replace hv := zz hv
 clear hc np
 go_enter Tryz.func99, Tryz.ntmps99
 go_wp2
 refine wp_loop_rounds 1 ?_
 rw [rounds_succ]
 go_wp2
 go_quiet (fail)
 go_wp2
 refine wp_region_tail 14 [] [0, 1, 2, 3, 4, 5, 6, 7, 8, 9, 10, 11, 12, 13] (by kernel_rfl) (by kernel_rfl) (fun _ _ _ _ _ h => h) ?_
 simp only [List.filterMap_cons, List.filterMap_nil, List.getElem?_toArray, List.getElem?_cons_zero, List.getElem?_cons_succ, List.nil_append, List.cons_append, List.drop_succ_cons, List.drop_zero]
 repeat still_step
 refine wpStill_nil ?_
 go_wp2
 go_end0
 have f1 : Fr (fun x => x = X.P) w (((w.drewN nq).drew).setCell ⟨X.P, 10, none⟩ (.slice (some ⟨g, 0, none⟩) n cap)) := (((Fr.refl (fun x => x = X.P) w).drewN _).drew).set (Or.inl rfl) _ _
 refine ⟨rfl, .slice (some ⟨g, 0, none⟩) n cap, ?_, ?_, ?_, ?_⟩
 ·have := Blk.set (w := w.drewN nq) D.out 10 (.slice (some ⟨g, 0, none⟩) n cap)
  exact this
 ·exact f1
 ·rw [List.replicate_succ'] at pf
  exact ownsRow_frame (ownsRow_pop pf.out (by simp)) f1 (fun k hk e => hgP (by simp [Value.ownBlock] at hk; omega))
 ·rw [hv.out]; rfl
end
end Go.Proofs.YtepbbahdhhjibaaGreatDoor
