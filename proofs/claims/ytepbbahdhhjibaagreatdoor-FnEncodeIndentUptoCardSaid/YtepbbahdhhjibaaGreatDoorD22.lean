/- own text -/
import Derived.Stop.Asserts
import Derived.Deep.LoopGhost
import Derived.Test.YtepbbahdhhjibaaGreatDoorD21
namespace Go.Proofs.YtepbbahdhhjibaaGreatDoor
set_option linter.unusedSimpArgs false
set_option linter.unusedVariables false
set_option maxHeartbeats 4000000
set_option maxRecDepth 100000
section
open Go.RowKit
theorem ta_55_244 (x : Value) (w : World) : (Instr.typeAssert (.iface 55 x) 95 244 true).run Tryz.prog w = .ok (.tuple #[.nilIface, .bool false]) w := run_typeAssert_lacksB Tryz.underlying244 (by kernel_rfl) (by kernel_rfl) x 95 w
def cpA (cells : Array Value) (o : Nat) (l : List UInt8) : Array Value := (cells.toList.take o ++ bv l ++ cells.toList.drop (o + l.length)).toArray
theorem cpA_size {cells : Array Value} {o : Nat} {l : List UInt8} (h : o + l.length <= cells.size) : (cpA cells o l).size = cells.size := by
 simp [cpA, bv]; omega
theorem cpA_take {cells : Array Value} {o : Nat} {l : List UInt8} (h : o + l.length <= cells.size) : (cpA cells o l).toList.take (o + l.length) = cells.toList.take o ++ bv l := by
 unfold cpA
 rw [List.take_append_of_le_length (by simp [bv]; omega), List.take_of_length_le (by simp [bv]; omega)]
theorem Wp.copy {E : Wx} {w : World} {va : Value} {out : List UInt8} {n : Nat} (h : Wp E w va out n) (cells : Array Value) (hc : Blk w E.BB cells 5) (k : Nat) (o : Nat) (l : List UInt8) (ho : o = n \/ l = []) (ho4 : o + l.length <= 4096) (hl : n + l.length <= 4096) :
  Wp E (((w.drewN k).setRow E.BB (cpA cells o l)).setCell ⟨E.B, 2, none⟩ (.int .i64 ((n + l.length : Nat) : Int))) va (out ++ l) (n + l.length) /\ WSt E w va (((w.drewN k).setRow E.BB (cpA cells o l)).setCell ⟨E.B, 2, none⟩ (.int .i64 ((n + l.length : Nat) : Int))) va := by
 refine h.put l hl (fun cs hb => ?_) (fun cells' hb hs => ?_) ?_
 ·exact Blk.set (Blk.setRow_ne (w := w.drewN k) hb h.ne.1 _) 2 _
 ·have e : cells' = cells := by
   have := hb.symm.trans hc
   simp only [Option.some.injEq, Obj.cells.injEq] at this
   exact this.1
  subst e
  refine ⟨cpA cells' o l, Blk.set_ne (Blk.setRow (w := w.drewN k) hb _) (Ne.symm h.ne.1) _, by rw [cpA_size (by omega), hs], ?_⟩
  rcases ho with rfl | rfl
  ·exact cpA_take (by omega)
  ·have e2 : cpA cells' o [] = cells' := by unfold cpA; simp [bv]
   rw [e2]; simp [bv]
 ·exact (((Fr.refl (fun y => y = E.B \/ y = E.BB) w).drewN k).setRow (Or.inl (Or.inr rfl)) _).set (Or.inl (Or.inl rfl)) _ _
theorem copy_str (BB o d : Nat) (cells : Array Value) (r : ByteArray) (w : World) (hc : Blk w BB cells 5) (hs : cells.size = 4096) (hr : r.size <= d) (ho : o + d <= 4096) :
  (Builtin.copy_ #[56, 9] 3 #[.slice (some ⟨BB, o, none⟩) d d, .string r]).run Tryz.prog w = .ok (goInt ((r.size : Nat) : Int)) (w.setRow BB (cpA cells o r.data.toList)) := by
 obtain ⟨i0, hi, hz0, hz1, hz2⟩ := info_parts info5
 have := run_copy_row_string_min (P := Tryz.prog) w 56 9 3 5 BB o d d r cells 5 Tryz.underlying56 (by rw [hi]; simp [hz1]) hc (by omega)
 have hm : min r.size d = r.size := by omega
 rw [hm] at this
 have e1 : (bv r.data.toList).take r.size = bv r.data.toList := List.take_of_length_le (by rw [bv_len, Lib.size_eq]; exact Nat.le_refl _)
 rw [e1] at this
 unfold cpA
 rw [show r.data.toList.length = r.size from (Lib.size_eq r).symm]
 exact this
theorem copy_str_min (BB o d : Nat) (cells : Array Value) (r : ByteArray) (w : World) (hc : Blk w BB cells 5) (hs : cells.size = 4096) (hr : d <= r.size) (ho : o + d <= 4096) :
  (Builtin.copy_ #[56, 9] 3 #[.slice (some ⟨BB, o, none⟩) d d, .string r]).run Tryz.prog w = .ok (goInt ((d : Nat) : Int)) (w.setRow BB (cpA cells o (r.data.toList.take d))) := by
 obtain ⟨i0, hi, hz0, hz1, hz2⟩ := info_parts info5
 have := run_copy_row_string_min (P := Tryz.prog) w 56 9 3 5 BB o d d r cells 5 Tryz.underlying56 (by rw [hi]; simp [hz1]) hc (by omega)
 have hm : min r.size d = d := by omega
 rw [hm] at this
 have e1 : (bv r.data.toList).take d = bv (r.data.toList.take d) := by simp [bv, List.map_take]
 rw [e1] at this
 have e2 : (r.data.toList.take d).length = d := by rw [List.length_take, <- Lib.size_eq]; omega
 unfold cpA
 rw [e2]
 exact this
theorem ext_drop (r : ByteArray) (d : Nat) : (r.extract d r.size).data.toList = r.data.toList.drop d := by
 rw [ByteArray.data_extract, Array.toList_extract, List.extract_eq_take_drop]
 exact List.take_of_length_le (by rw [List.length_drop, <- Lib.size_eq]; exact Nat.le_refl _)
theorem bwstr (E : Wx) (va : Value) (out : List UInt8) (s : ByteArray) (w : World) (h : Wr E w va out) (hl : out.length + s.size <= 1099511627776) :
  Calls Tryz.prog 103 #[.pointer (some ⟨E.B, 0, none⟩), .string s] w fun e w' => e = .returned (.tuple #[.int .i64 s.size, .nilIface]) /\ ∃ va', WSt E w va w' va' /\ Wr E w' va' (out ++ s.data.toList) := by
 obtain ⟨n0, hp0⟩ := h.parts
 have hta := ta_55_244
 replace hp0 := zz hp0
 clear h
 go_enter Tryz.func103, Tryz.ntmps103
 go_wp2
 go_loopg [1, 6, 7, 8] (2 * s.size + n0) (fun m u1 u6 u7 u8 wr => ∃ (r : ByteArray) (done : List UInt8) (tb : Bool) (va1 : Value) (n : Nat), u1 = .string r /\ u6 = .nilIface /\ u7 = .bool tb /\ u8 = .int .i64 done.length /\ done ++ r.data.toList = s.data.toList /\ m = 2 * r.size + n /\ Wp E wr va1 (out ++ done) n /\ WSt E w va wr va1)
 case atStart => exact ⟨s, [], true, va, n0, rfl, rfl, rfl, rfl, rfl, rfl, by rw [List.append_nil]; exact hp0.out, WSt.refl E w va⟩
 case round =>
  obtain ⟨r, done, tb, va1, n, rfl, rfl, rfl, rfl, hdr, rfl, hp, hS⟩ := hrel
  clear hp0
  have hrs : done.length + r.size = s.size := by rw [Lib.size_eq r, <- List.length_append, hdr, <- Lib.size_eq]
  have hol : (out ++ done).length <= 1099511627776 := by rw [List.length_append]; omega
  obtain ⟨c0, c1, c2, c3, f2⟩ := hp.cells
  have hle := hp.le
  obtain ⟨aa, bb, cells, _, _, _, hcells, hcs, _⟩ := hp.ex
  have hBB := hp.ne.1
  have hBB' := Ne.symm hBB
  have hav := avail_do E.B n _ wr hp.le c1 c2
  have hbuf := fun k => buffered_do E.B n (wr.drewN k) c2
  by_cases hfit : r.size <= 4096 - n
  ·have hf1 : ¬ (((4096 - n : Nat) : Int) < (r.size : Int)) := by omega
   by_cases hn : n < 4096
   ·have hcp := fun k => copy_str E.BB n (4096 - n) cells r (wr.drewN k) hcells hcs (by omega) (by omega)
    have hn2 : (n : Int) <= 4096 := by omega
    have hnf : ¬ (4096 = n) := by omega
    have hk2 : ∀ k, ((wr.drewN k).setRow E.BB (cpA cells n r.data.toList)).cell? ⟨E.B, 2, none⟩ = some (.int .i64 n) /\ ((wr.drewN k).setRow E.BB (cpA cells n r.data.toList)).frozen? ⟨E.B, 2, none⟩ = false := fun k => by
     obtain ⟨_, _, _, _, _, hb, _⟩ := hp.ex
     have h1 := Blk.setRow_ne (w := wr.drewN k) hb hBB (cpA cells n r.data.toList)
     exact ⟨by rw [h1.cell]; rfl, h1.fz 2⟩
    have hsum : IntKind.i64.wrap ((n : Int) + (r.size : Int)) = (n : Int) + (r.size : Int) := by rw [IntWalk.i64_in _ (by omega)]
    have hsum2 : IntKind.i64.wrap ((done.length : Int) + (r.size : Int)) = (s.size : Int) := by rw [IntWalk.i64_in _ (by omega)]; omega
    have hk3 := fun k => (hk2 k).1
    have hk4 := fun k => (hk2 k).2
    have hfin : ∀ k, Wp E (((wr.drewN k).setRow E.BB (cpA cells n r.data.toList)).setCell ⟨E.B, 2, none⟩ (.int .i64 ((n : Int) + (r.size : Int)))) va1 ((out ++ done) ++ r.data.toList) (n + r.data.toList.length) /\ WSt E wr va1 (((wr.drewN k).setRow E.BB (cpA cells n r.data.toList)).setCell ⟨E.B, 2, none⟩ (.int .i64 ((n : Int) + (r.size : Int)))) va1 := fun k => by
     have := hp.copy cells hcells k n r.data.toList (Or.inl rfl) (by rw [<- Lib.size_eq]; omega) (by rw [<- Lib.size_eq]; omega)
     have e : ((n + r.data.toList.length : Nat) : Int) = (n : Int) + (r.size : Int) := by rw [<- Lib.size_eq]; omega
     rw [e] at this
     exact this
    generalize hAV : 4096 - n = av at hav hf1
    replace hAV := zz hAV
    replace hfin := zz hfin
    replace hS := zz hS
    replace hdr := zz hdr
    clear hp hk2 hcells hbuf hfit
    go_wp2_with (go_at_call 147; refine hav.mono ?_; rintro e w1 ⟨rfl, k, rfl⟩)
    refine wp_region_tail 10 [] [0, 1, 2, 3, 4, 5, 6, 7, 8, 9] (by kernel_rfl) (by kernel_rfl) (fun _ _ _ _ _ h => h) ?_
    simp only [List.filterMap_cons, List.filterMap_nil, List.getElem?_toArray, List.getElem?_cons_zero, List.getElem?_cons_succ, List.nil_append, List.cons_append, List.drop_succ_cons, List.drop_zero]
    repeat still_step
    refine wpStill_nil ?_
    go_wp2
    go_ret2
    exact ⟨rfl, va1, hS.out.trans (hfin.out _).2, by have := (hfin.out (k + 1)).1.wr; rw [List.append_assoc, hdr.out] at this; exact this⟩
   ·have hcp := fun k => copy_str E.BB 0 0 cells r (wr.drewN k) hcells hcs (by omega) (by omega)
    have hn2 : (n : Int) <= 4096 := by omega
    have hnf : n = 4096 := by omega
    have hk2 : ∀ k, ((wr.drewN k).setRow E.BB (cpA cells 0 r.data.toList)).cell? ⟨E.B, 2, none⟩ = some (.int .i64 n) /\ ((wr.drewN k).setRow E.BB (cpA cells 0 r.data.toList)).frozen? ⟨E.B, 2, none⟩ = false := fun k => by
     obtain ⟨_, _, _, _, _, hb, _⟩ := hp.ex
     have h1 := Blk.setRow_ne (w := wr.drewN k) hb hBB (cpA cells 0 r.data.toList)
     exact ⟨by rw [h1.cell]; rfl, h1.fz 2⟩
    have hsum : IntKind.i64.wrap ((n : Int) + (r.size : Int)) = (n : Int) + (r.size : Int) := by rw [IntWalk.i64_in _ (by omega)]
    have hsum2 : IntKind.i64.wrap ((done.length : Int) + (r.size : Int)) = (s.size : Int) := by rw [IntWalk.i64_in _ (by omega)]; omega
    have hk3 := fun k => (hk2 k).1
    have hk4 := fun k => (hk2 k).2
    have hfin : ∀ k, Wp E (((wr.drewN k).setRow E.BB (cpA cells 0 r.data.toList)).setCell ⟨E.B, 2, none⟩ (.int .i64 ((n : Int) + (r.size : Int)))) va1 ((out ++ done) ++ r.data.toList) (n + r.data.toList.length) /\ WSt E wr va1 (((wr.drewN k).setRow E.BB (cpA cells 0 r.data.toList)).setCell ⟨E.B, 2, none⟩ (.int .i64 ((n : Int) + (r.size : Int)))) va1 := fun k => by
     have := hp.copy cells hcells k 0 r.data.toList (Or.inr (by have h0 : r.size = 0 := (by omega); rw [Lib.size_eq] at h0; exact List.length_eq_zero_iff.1 h0)) (by rw [<- Lib.size_eq]; omega) (by rw [<- Lib.size_eq]; omega)
     have e : ((n + r.data.toList.length : Nat) : Int) = (n : Int) + (r.size : Int) := by rw [<- Lib.size_eq]; omega
     rw [e] at this
     exact this
    generalize hAV : 4096 - n = av at hav hf1
    replace hAV := zz hAV
    replace hfin := zz hfin
    replace hS := zz hS
    replace hdr := zz hdr
    clear hp hk2 hcells hbuf hfit
    subst hnf
    go_wp2_with (go_at_call 147; refine hav.mono ?_; rintro e w1 ⟨rfl, k, rfl⟩)
    refine wp_region_tail 10 [] [0, 1, 2, 3, 4, 5, 6, 7, 8, 9] (by kernel_rfl) (by kernel_rfl) (fun _ _ _ _ _ h => h) ?_
    simp only [List.filterMap_cons, List.filterMap_nil, List.getElem?_toArray, List.getElem?_cons_zero, List.getElem?_cons_succ, List.nil_append, List.cons_append, List.drop_succ_cons, List.drop_zero]
    repeat still_step
    refine wpStill_nil ?_
    go_wp2
    go_ret2
    exact ⟨rfl, va1, hS.out.trans (hfin.out _).2, by have := (hfin.out (k + 1)).1.wr; rw [List.append_assoc, hdr.out] at this; exact this⟩
  ·have hf1 : ((4096 - n : Nat) : Int) < (r.size : Int) := by omega
   by_cases hn0 : n = 0
   ·cases tb with
    | true =>
     subst hn0
     have hdr2 : Hid ((done ++ (r.data.toList.take 4096)) ++ ((r.extract 4096 r.size)).data.toList = s.data.toList) := zz (by
      rw [<- hdr, List.append_assoc, ext_drop, List.take_append_drop])
     have hes : (r.extract 4096 r.size).size = r.size - 4096 := by rw [ByteArray.size_extract]; omega
     have hcp := fun k => copy_str_min E.BB 0 4096 cells r (wr.drewN k) hcells hcs (by omega) (by omega)
     have hk2 : ∀ k, ((wr.drewN k).setRow E.BB (cpA cells 0 (r.data.toList.take 4096))).cell? ⟨E.B, 2, none⟩ = some (.int .i64 0) /\ ((wr.drewN k).setRow E.BB (cpA cells 0 (r.data.toList.take 4096))).frozen? ⟨E.B, 2, none⟩ = false := fun k => by
      obtain ⟨_, _, _, _, _, hb, _⟩ := hp.ex
      have h1 := Blk.setRow_ne (w := wr.drewN k) hb hBB (cpA cells 0 (r.data.toList.take 4096))
      exact ⟨by rw [h1.cell]; rfl, h1.fz 2⟩
     have hsum : IntKind.i64.wrap ((0 : Int) + ((4096 : Nat) : Int)) = 4096 := by rw [IntWalk.i64_in _ (by omega)]; omega
     obtain ⟨DL, hDL⟩ : ∃ DL, DL = (done ++ (r.data.toList.take 4096)).length := ⟨_, rfl⟩
     have htk : (r.data.toList.take 4096).length = 4096 := by rw [List.length_take, <- Lib.size_eq]; omega
     have hsum2 : IntKind.i64.wrap ((done.length : Int) + 4096) = (DL : Int) := by rw [IntWalk.i64_in _ (by omega), hDL, List.length_append, htk]; omega
     have hlo : (4096 : Nat) <= r.size := by omega
     have hlo2 : (((4096 : Nat) : Nat) : Int) <= (r.size : Int) := by omega
     have hk3 := fun k => (hk2 k).1
     have hk4 := fun k => (hk2 k).2
     have hfl : ∀ k, Calls Tryz.prog 63 #[.pointer (some ⟨E.B, 0, none⟩)] (((wr.drewN k).setRow E.BB (cpA cells 0 (r.data.toList.take 4096))).setCell ⟨E.B, 2, none⟩ (.int .i64 4096)) fun e w' => e = .returned .nilIface /\ Hid (∃ va', WSt E wr va1 w' va' /\ Wp E w' va' (out ++ (done ++ (r.data.toList.take 4096))) 0) := fun k => by
      have hc := hp.copy cells hcells k 0 (r.data.toList.take 4096) (Or.inl rfl) (by rw [htk]; omega) (by rw [htk]; omega)
      have e : ((0 + (r.data.toList.take 4096).length : Nat) : Int) = 4096 := by rw [htk]; omega
      rw [e] at hc
      refine (flush_p E va1 _ _ _ hc.1 (by rw [List.length_append, List.length_append, htk]; omega)).mono ?_
      rintro e w' ⟨rfl, va', k1, k2⟩
      rw [List.append_assoc] at k2
      exact ⟨rfl, va', hc.2.trans k1, k2⟩
     have hmeas : 2 * (r.size - 4096) + 0 < 2 * r.size + 0 := by omega
     generalize hAV : 4096 - 0 = av at hav hf1
     replace hAV := zz hAV
     replace hfl := zz hfl
     replace hS := zz hS
     replace hDL := zz hDL
     replace hes := zz hes
     replace hmeas := zz hmeas
     clear hp hk2 hcells hfit hdr htk hrs hol hle
     go_wp2_with (first | (go_at_call 147; refine hav.mono ?_; rintro e w1 ⟨rfl, k, rfl⟩) | (go_at_call 59; refine (hbuf _).mono ?_; rintro e w2 ⟨rfl, rfl⟩))
     refine wp_region_tail 10 [] [0, 1, 2, 3, 4, 5, 6, 7, 8, 9] (by kernel_rfl) (by kernel_rfl) (fun _ _ _ _ _ h => h) ?_
     simp only [List.filterMap_cons, List.filterMap_nil, List.getElem?_toArray, List.getElem?_cons_zero, List.getElem?_cons_succ, List.nil_append, List.cons_append, List.drop_succ_cons, List.drop_zero]
     repeat still_step
     refine wpStill_nil ?_
     go_wp2_with (go_at_call 63; refine (hfl.out _).mono ?_; rintro e w3 ⟨rfl, k3⟩)
     go_roundg (2 * (r.size - 4096) + 0)
     case measure => exact hmeas.out
     case rel =>
      obtain ⟨va', k4, k5⟩ := k3.out
      exact ⟨r.extract 4096 r.size, done ++ (r.data.toList.take 4096), false, va', 0, rfl, rfl, rfl, by rw [hDL.out], hdr2.out, by rw [hes.out], k5, hS.out.trans k4⟩
    | false =>
     subst hn0
     have hdr2 : Hid ((done ++ (r.data.toList.take 4096)) ++ ((r.extract 4096 r.size)).data.toList = s.data.toList) := zz (by
      rw [<- hdr, List.append_assoc, ext_drop, List.take_append_drop])
     have hes : (r.extract 4096 r.size).size = r.size - 4096 := by rw [ByteArray.size_extract]; omega
     have hcp := fun k => copy_str_min E.BB 0 4096 cells r (wr.drewN k) hcells hcs (by omega) (by omega)
     have hk2 : ∀ k, ((wr.drewN k).setRow E.BB (cpA cells 0 (r.data.toList.take 4096))).cell? ⟨E.B, 2, none⟩ = some (.int .i64 0) /\ ((wr.drewN k).setRow E.BB (cpA cells 0 (r.data.toList.take 4096))).frozen? ⟨E.B, 2, none⟩ = false := fun k => by
      obtain ⟨_, _, _, _, _, hb, _⟩ := hp.ex
      have h1 := Blk.setRow_ne (w := wr.drewN k) hb hBB (cpA cells 0 (r.data.toList.take 4096))
      exact ⟨by rw [h1.cell]; rfl, h1.fz 2⟩
     have hsum : IntKind.i64.wrap ((0 : Int) + ((4096 : Nat) : Int)) = 4096 := by rw [IntWalk.i64_in _ (by omega)]; omega
     obtain ⟨DL, hDL⟩ : ∃ DL, DL = (done ++ (r.data.toList.take 4096)).length := ⟨_, rfl⟩
     have htk : (r.data.toList.take 4096).length = 4096 := by rw [List.length_take, <- Lib.size_eq]; omega
     have hsum2 : IntKind.i64.wrap ((done.length : Int) + 4096) = (DL : Int) := by rw [IntWalk.i64_in _ (by omega), hDL, List.length_append, htk]; omega
     have hlo : (4096 : Nat) <= r.size := by omega
     have hlo2 : (((4096 : Nat) : Nat) : Int) <= (r.size : Int) := by omega
     have hk3 := fun k => (hk2 k).1
     have hk4 := fun k => (hk2 k).2
     have hfl : ∀ k, Calls Tryz.prog 63 #[.pointer (some ⟨E.B, 0, none⟩)] (((wr.drewN k).setRow E.BB (cpA cells 0 (r.data.toList.take 4096))).setCell ⟨E.B, 2, none⟩ (.int .i64 4096)) fun e w' => e = .returned .nilIface /\ Hid (∃ va', WSt E wr va1 w' va' /\ Wp E w' va' (out ++ (done ++ (r.data.toList.take 4096))) 0) := fun k => by
      have hc := hp.copy cells hcells k 0 (r.data.toList.take 4096) (Or.inl rfl) (by rw [htk]; omega) (by rw [htk]; omega)
      have e : ((0 + (r.data.toList.take 4096).length : Nat) : Int) = 4096 := by rw [htk]; omega
      rw [e] at hc
      refine (flush_p E va1 _ _ _ hc.1 (by rw [List.length_append, List.length_append, htk]; omega)).mono ?_
      rintro e w' ⟨rfl, va', k1, k2⟩
      rw [List.append_assoc] at k2
      exact ⟨rfl, va', hc.2.trans k1, k2⟩
     have hmeas : 2 * (r.size - 4096) + 0 < 2 * r.size + 0 := by omega
     generalize hAV : 4096 - 0 = av at hav hf1
     replace hAV := zz hAV
     replace hfl := zz hfl
     replace hS := zz hS
     replace hDL := zz hDL
     replace hes := zz hes
     replace hmeas := zz hmeas
     clear hp hk2 hcells hfit hdr htk hrs hol hle
     go_wp2_with (first | (go_at_call 147; refine hav.mono ?_; rintro e w1 ⟨rfl, k, rfl⟩) | (go_at_call 59; refine (hbuf _).mono ?_; rintro e w2 ⟨rfl, rfl⟩))
     refine wp_region_tail 10 [] [0, 1, 2, 3, 4, 5, 6, 7, 8, 9] (by kernel_rfl) (by kernel_rfl) (fun _ _ _ _ _ h => h) ?_
     simp only [List.filterMap_cons, List.filterMap_nil, List.getElem?_toArray, List.getElem?_cons_zero, List.getElem?_cons_succ, List.nil_append, List.cons_append, List.drop_succ_cons, List.drop_zero]
     repeat still_step
     refine wpStill_nil ?_
     go_wp2_with (go_at_call 63; refine (hfl.out _).mono ?_; rintro e w3 ⟨rfl, k3⟩)
     go_roundg (2 * (r.size - 4096) + 0)
     case measure => exact hmeas.out
     case rel =>
      obtain ⟨va', k4, k5⟩ := k3.out
      exact ⟨r.extract 4096 r.size, done ++ (r.data.toList.take 4096), false, va', 0, rfl, rfl, rfl, by rw [hDL.out], hdr2.out, by rw [hes.out], k5, hS.out.trans k4⟩
   ·by_cases hn : n < 4096
    ·have hz : ((n : Int) == 0) = false := by rw [beq_eq_false_iff_ne]; omega
     have hnf : ¬ (4096 = n) := by omega
     have hn2 : (n : Int) <= 4096 := by omega
     have hdr2 : Hid ((done ++ (r.data.toList.take (4096 - n))) ++ ((r.extract (4096 - n) r.size)).data.toList = s.data.toList) := zz (by
      rw [<- hdr, List.append_assoc, ext_drop, List.take_append_drop])
     have hes : (r.extract (4096 - n) r.size).size = r.size - (4096 - n) := by rw [ByteArray.size_extract]; omega
     have hcp := fun k => copy_str_min E.BB n (4096 - n) cells r (wr.drewN k) hcells hcs (by omega) (by omega)
     have hk2 : ∀ k, ((wr.drewN k).setRow E.BB (cpA cells n (r.data.toList.take (4096 - n)))).cell? ⟨E.B, 2, none⟩ = some (.int .i64 n) /\ ((wr.drewN k).setRow E.BB (cpA cells n (r.data.toList.take (4096 - n)))).frozen? ⟨E.B, 2, none⟩ = false := fun k => by
      obtain ⟨_, _, _, _, _, hb, _⟩ := hp.ex
      have h1 := Blk.setRow_ne (w := wr.drewN k) hb hBB (cpA cells n (r.data.toList.take (4096 - n)))
      exact ⟨by rw [h1.cell]; rfl, h1.fz 2⟩
     have hsum : IntKind.i64.wrap ((n : Int) + (((4096 - n) : Nat) : Int)) = 4096 := by rw [IntWalk.i64_in _ (by omega)]; omega
     obtain ⟨DL, hDL⟩ : ∃ DL, DL = (done ++ (r.data.toList.take (4096 - n))).length := ⟨_, rfl⟩
     have htk : (r.data.toList.take (4096 - n)).length = (4096 - n) := by rw [List.length_take, <- Lib.size_eq]; omega
     have hsum2 : IntKind.i64.wrap ((done.length : Int) + (((4096 - n) : Nat) : Int)) = (DL : Int) := by rw [IntWalk.i64_in _ (by omega), hDL, List.length_append, htk]; omega
     have hlo : ((4096 - n) : Nat) <= r.size := by omega
     have hlo2 : ((((4096 - n) : Nat) : Nat) : Int) <= (r.size : Int) := by omega
     have hk3 := fun k => (hk2 k).1
     have hk4 := fun k => (hk2 k).2
     have hfl : ∀ k, Calls Tryz.prog 63 #[.pointer (some ⟨E.B, 0, none⟩)] (((wr.drewN k).setRow E.BB (cpA cells n (r.data.toList.take (4096 - n)))).setCell ⟨E.B, 2, none⟩ (.int .i64 4096)) fun e w' => e = .returned .nilIface /\ Hid (∃ va', WSt E wr va1 w' va' /\ Wp E w' va' (out ++ (done ++ (r.data.toList.take (4096 - n)))) 0) := fun k => by
      have hc := hp.copy cells hcells k n (r.data.toList.take (4096 - n)) (Or.inl rfl) (by rw [htk]; omega) (by rw [htk]; omega)
      have e : ((n + (r.data.toList.take (4096 - n)).length : Nat) : Int) = 4096 := by rw [htk]; omega
      rw [e] at hc
      refine (flush_p E va1 _ _ _ hc.1 (by rw [List.length_append, List.length_append, htk]; omega)).mono ?_
      rintro e w' ⟨rfl, va', k1, k2⟩
      rw [List.append_assoc] at k2
      exact ⟨rfl, va', hc.2.trans k1, k2⟩
     have hmeas : 2 * (r.size - (4096 - n)) + 0 < 2 * r.size + n := by omega
     generalize hAV : 4096 - n = av at hav hf1
     replace hAV := zz hAV
     replace hfl := zz hfl
     replace hS := zz hS
     replace hDL := zz hDL
     replace hes := zz hes
     replace hmeas := zz hmeas
     clear hp hk2 hcells hfit hdr htk hrs hol hle
     go_wp2_with (first | (go_at_call 147; refine hav.mono ?_; rintro e w1 ⟨rfl, k, rfl⟩) | (go_at_call 59; refine (hbuf _).mono ?_; rintro e w2 ⟨rfl, rfl⟩))
     refine wp_region_tail 10 [] [0, 1, 2, 3, 4, 5, 6, 7, 8, 9] (by kernel_rfl) (by kernel_rfl) (fun _ _ _ _ _ h => h) ?_
     simp only [List.filterMap_cons, List.filterMap_nil, List.getElem?_toArray, List.getElem?_cons_zero, List.getElem?_cons_succ, List.nil_append, List.cons_append, List.drop_succ_cons, List.drop_zero]
     repeat still_step
     refine wpStill_nil ?_
     go_wp2_with (go_at_call 63; refine (hfl.out _).mono ?_; rintro e w3 ⟨rfl, k3⟩)
     go_roundg (2 * (r.size - (4096 - n)) + 0)
     case measure => exact hmeas.out
     case rel =>
      obtain ⟨va', k4, k5⟩ := k3.out
      exact ⟨r.extract (4096 - n) r.size, done ++ (r.data.toList.take (4096 - n)), tb, va', 0, rfl, rfl, rfl, by rw [hDL.out], hdr2.out, by rw [hes.out], k5, hS.out.trans k4⟩
    ·have hnf : n = 4096 := by omega
     subst hnf
     have hdr2 : Hid ((done ++ ([] : List UInt8)) ++ (r).data.toList = s.data.toList) := zz (by
      rw [<- hdr, List.append_nil])
     have hes : (r.extract 0 r.size).size = r.size - 0 := by rw [ByteArray.size_extract]; omega
     have hcp := fun k => (by have := copy_str_min E.BB 0 0 cells r (wr.drewN k) hcells hcs (by omega) (by omega); rw [List.take_zero] at this; exact this : (Builtin.copy_ #[56, 9] 3 #[.slice (some ⟨E.BB, 0, none⟩) 0 0, .string r]).run Tryz.prog (wr.drewN k) = .ok (goInt (((0 : Nat) : Nat) : Int)) ((wr.drewN k).setRow E.BB (cpA cells 0 ([] : List UInt8))))
     have hk2 : ∀ k, ((wr.drewN k).setRow E.BB (cpA cells 0 ([] : List UInt8))).cell? ⟨E.B, 2, none⟩ = some (.int .i64 4096) /\ ((wr.drewN k).setRow E.BB (cpA cells 0 ([] : List UInt8))).frozen? ⟨E.B, 2, none⟩ = false := fun k => by
      obtain ⟨_, _, _, _, _, hb, _⟩ := hp.ex
      have h1 := Blk.setRow_ne (w := wr.drewN k) hb hBB (cpA cells 0 ([] : List UInt8))
      exact ⟨by rw [h1.cell]; rfl, h1.fz 2⟩
     have hsum : IntKind.i64.wrap ((4096 : Int) + ((0 : Nat) : Int)) = 4096 := by rw [IntWalk.i64_in _ (by omega)]; omega
     obtain ⟨DL, hDL⟩ : ∃ DL, DL = (done ++ ([] : List UInt8)).length := ⟨_, rfl⟩
     have htk : ([] : List UInt8).length = 0 := by rfl
     have hsum2 : IntKind.i64.wrap ((done.length : Int)) = (DL : Int) := by rw [IntWalk.i64_in _ (by omega), hDL, List.length_append, htk]; omega
     have hlo : (0 : Nat) <= r.size := by omega
     have hlo2 : (((0 : Nat) : Nat) : Int) <= (r.size : Int) := by omega
     have hk3 := fun k => (hk2 k).1
     have hk4 := fun k => (hk2 k).2
     have hfl : ∀ k, Calls Tryz.prog 63 #[.pointer (some ⟨E.B, 0, none⟩)] (((wr.drewN k).setRow E.BB (cpA cells 0 ([] : List UInt8))).setCell ⟨E.B, 2, none⟩ (.int .i64 4096)) fun e w' => e = .returned .nilIface /\ Hid (∃ va', WSt E wr va1 w' va' /\ Wp E w' va' (out ++ (done ++ ([] : List UInt8))) 0) := fun k => by
      have hc := hp.copy cells hcells k 0 ([] : List UInt8) (Or.inr rfl) (by rw [htk]; omega) (by rw [htk]; omega)
      have e : ((4096 + ([] : List UInt8).length : Nat) : Int) = 4096 := by rw [htk]; omega
      rw [e] at hc
      refine (flush_p E va1 _ _ _ hc.1 (by rw [List.length_append, List.length_append, htk]; omega)).mono ?_
      rintro e w' ⟨rfl, va', k1, k2⟩
      rw [List.append_assoc] at k2
      exact ⟨rfl, va', hc.2.trans k1, k2⟩
     have hmeas : 2 * (r.size - 0) + 0 < 2 * r.size + 4096 := by omega
     generalize hAV : 4096 - 4096 = av at hav hf1
     replace hAV := zz hAV
     replace hfl := zz hfl
     replace hS := zz hS
     replace hDL := zz hDL
     replace hes := zz hes
     replace hmeas := zz hmeas
     clear hp hk2 hcells hfit hdr htk hrs hol hle
     go_wp2_with (first | (go_at_call 147; refine hav.mono ?_; rintro e w1 ⟨rfl, k, rfl⟩) | (go_at_call 59; refine (hbuf _).mono ?_; rintro e w2 ⟨rfl, rfl⟩))
     refine wp_region_tail 10 [] [0, 1, 2, 3, 4, 5, 6, 7, 8, 9] (by kernel_rfl) (by kernel_rfl) (fun _ _ _ _ _ h => h) ?_
     simp only [List.filterMap_cons, List.filterMap_nil, List.getElem?_toArray, List.getElem?_cons_zero, List.getElem?_cons_succ, List.nil_append, List.cons_append, List.drop_succ_cons, List.drop_zero]
     repeat still_step
     refine wpStill_nil ?_
     go_wp2_with (go_at_call 63; refine (hfl.out _).mono ?_; rintro e w3 ⟨rfl, k3⟩)
     go_roundg (2 * (r.size - 0) + 0)
     case measure => exact hmeas.out
     case rel =>
      obtain ⟨va', k4, k5⟩ := k3.out
      exact ⟨r, done ++ ([] : List UInt8), tb, va', 0, rfl, rfl, rfl, by rw [hDL.out], hdr2.out, rfl, k5, hS.out.trans k4⟩
end
section
open Go.RowKit
theorem Lies.keep {F : Nat -> Prop} {w w' : World} {b o : Nat} {l : List UInt8} (h : Lies w b o l) (f : Fr F w w') (hF : ¬ F b) : Lies w' b o l := fun j c hj => f.cell hF (h j c hj)
theorem copy_sl (BB o d : Nat) (cells : Array Value) (g o1 m cap : Nat) (l : List UInt8) (w : World) (hc : Blk w BB cells 5) (hs : cells.size = 4096) (hl : Lies w g o1 l) (hm : m = l.length) (hr : m <= d) (ho : o + d <= 4096) :
  (Builtin.copy_ #[56, 56] 3 #[.slice (some ⟨BB, o, none⟩) d d, .slice (some ⟨g, o1, none⟩) m cap]).run Tryz.prog w = .ok (goInt ((m : Nat) : Int)) (w.setRow BB (cpA cells o l)) := by
 obtain ⟨i0, hi, hz0, hz1, hz2⟩ := info_parts info5
 have := run_copy_row (P := Tryz.prog) w 56 56 3 5 BB o d d ⟨g, o1, none⟩ m cap cells 5 (bv l) Tryz.underlying56 (by rw [hi]; simp [hz1]) hc (by rw [bv_len, <- hm]; exact (Nat.min_eq_left hr).symm) (by
  intro j v hj
  rw [Lib.addr_add]
  simp only [bv, List.getElem?_map, Option.map_eq_some_iff] at hj
  obtain ⟨c, hcc, rfl⟩ := hj
  exact hl j c hcc) (by rw [bv_len]; omega) (bv_one l)
 rw [bv_len, <- hm] at this
 unfold cpA
 rw [<- hm]
 exact this
theorem copy_sl_min (BB o d : Nat) (cells : Array Value) (g o1 m cap : Nat) (l : List UInt8) (w : World) (hc : Blk w BB cells 5) (hs : cells.size = 4096) (hl : Lies w g o1 l) (hm : m = l.length) (hr : d <= m) (ho : o + d <= 4096) :
  (Builtin.copy_ #[56, 56] 3 #[.slice (some ⟨BB, o, none⟩) d d, .slice (some ⟨g, o1, none⟩) m cap]).run Tryz.prog w = .ok (goInt ((d : Nat) : Int)) (w.setRow BB (cpA cells o (l.take d))) := by
 obtain ⟨i0, hi, hz0, hz1, hz2⟩ := info_parts info5
 have htk : (l.take d).length = d := by rw [List.length_take]; omega
 have := run_copy_row (P := Tryz.prog) w 56 56 3 5 BB o d d ⟨g, o1, none⟩ m cap cells 5 (bv (l.take d)) Tryz.underlying56 (by rw [hi]; simp [hz1]) hc (by rw [bv_len, htk]; exact (Nat.min_eq_right hr).symm) (by
  intro j v hj
  rw [Lib.addr_add]
  simp only [bv, List.getElem?_map, Option.map_eq_some_iff] at hj
  obtain ⟨c, hcc, rfl⟩ := hj
  rw [List.getElem?_take] at hcc
  split at hcc
  ·exact hl j c hcc
  ·cases hcc) (by rw [bv_len, htk]; omega) (bv_one _)
 rw [bv_len, htk] at this
 unfold cpA
 rw [htk]
 exact this
theorem bwnil (E : Wx) (va : Value) (out : List UInt8) (w : World) (h : Wr E w va out) :
  Calls Tryz.prog 104 #[.pointer (some ⟨E.B, 0, none⟩), .slice none 0 0] w fun e w' => e = .returned (.tuple #[.int .i64 0, .nilIface]) /\ WSt E w va w' va /\ Wr E w' va out := by
 obtain ⟨n, hp⟩ := h.parts
 obtain ⟨c0, c1, c2, c3, f2⟩ := hp.cells
 have hle := hp.le
 have hav := avail_do E.B n _ w hp.le c1 c2
 have hf1 : ¬ (((4096 - n : Nat) : Int) < 0) := by omega
 have hcn : ∀ (dp : Option Addr) (dl dc : Nat) (w : World), (Builtin.copy_ #[56, 56] 3 #[.slice dp dl dc, .slice none 0 0]).run Tryz.prog w = .ok (goInt 0) w := fun dp dl dc w => run_copy_none (P := Tryz.prog) w 56 56 3 5 _ none dl dc 0 0 Tryz.underlying56 (by obtain ⟨i0, hi, hz0, hz1, hz2⟩ := info_parts info5; rw [hi]; simp [hz1]) (by simp)
 have hn2 : (n : Int) <= 4096 := by omega
 have hsum : IntKind.i64.wrap (n : Int) = (n : Int) := IntWalk.i64_in _ (by omega)
 have hfin : ∀ k, Wp E ((w.drewN k).setCell ⟨E.B, 2, none⟩ (.int .i64 (n : Int))) va (out ++ []) (n + 0) /\ WSt E w va ((w.drewN k).setCell ⟨E.B, 2, none⟩ (.int .i64 (n : Int))) va := fun k => by
  refine hp.put [] (by simpa using hle) (fun cs hb => Blk.set (w := w.drewN k) hb 2 _) (fun cells hb hs => ⟨cells, Blk.set_ne (w := w.drewN k) hb (Ne.symm hp.ne.1) _, hs, by simp [bv]⟩) (((Fr.refl (fun y => y = E.B \/ y = E.BB) w).drewN k).set (Or.inl (Or.inl rfl)) _ _)
 generalize hAV : 4096 - n = av at hav hf1
 replace hAV := zz hAV
 replace hfin := zz hfin
 clear h hp
 by_cases hn : 4096 = n
 ·have hn' : n = 4096 := hn.symm
  clear hn
  subst hn'
  go_enter Tryz.func104, Tryz.ntmps104
  go_wp2
  refine wp_loop_rounds 1 ?_
  rw [rounds_succ]
  go_wp2_with (go_at_call 147; refine hav.mono ?_; rintro e w1 ⟨rfl, k, rfl⟩)
  refine wp_region_tail 10 [] [0, 1, 2, 3, 4, 5, 6, 7, 8, 9] (by kernel_rfl) (by kernel_rfl) (fun _ _ _ _ _ h => h) ?_
  simp only [List.filterMap_cons, List.filterMap_nil, List.getElem?_toArray, List.getElem?_cons_zero, List.getElem?_cons_succ, List.nil_append, List.cons_append, List.drop_succ_cons, List.drop_zero]
  repeat still_step
  refine wpStill_nil ?_
  go_wp2
  go_ret2
  exact ⟨rfl, (hfin.out _).2, by have := (hfin.out (k + 1)).1.wr; rw [List.append_nil] at this; exact this⟩
 ·go_enter Tryz.func104, Tryz.ntmps104
  go_wp2
  refine wp_loop_rounds 1 ?_
  rw [rounds_succ]
  go_wp2_with (go_at_call 147; refine hav.mono ?_; rintro e w1 ⟨rfl, k, rfl⟩)
  refine wp_region_tail 10 [] [0, 1, 2, 3, 4, 5, 6, 7, 8, 9] (by kernel_rfl) (by kernel_rfl) (fun _ _ _ _ _ h => h) ?_
  simp only [List.filterMap_cons, List.filterMap_nil, List.getElem?_toArray, List.getElem?_cons_zero, List.getElem?_cons_succ, List.nil_append, List.cons_append, List.drop_succ_cons, List.drop_zero]
  repeat still_step
  refine wpStill_nil ?_
  go_wp2
  go_ret2
  exact ⟨rfl, (hfin.out _).2, by have := (hfin.out (k + 1)).1.wr; rw [List.append_nil] at this; exact this⟩
end
end Go.Proofs.YtepbbahdhhjibaaGreatDoor
