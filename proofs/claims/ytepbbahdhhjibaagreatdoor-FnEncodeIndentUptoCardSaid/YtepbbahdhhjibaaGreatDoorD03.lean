/- own text -/
import Derived.Lib.MapLaws
import Derived.Shelf.Unicode.DecodeSlow
import Derived.Deep.LoopGhost
import Derived.Test.YtepbbahdhhjibaaGreatDoorD02
namespace Go.Proofs.YtepbbahdhhjibaaGreatDoor
set_option linter.unusedSimpArgs false
set_option linter.unusedVariables false
set_option maxHeartbeats 1000000
set_option maxRecDepth 100000
section
open Go.RowKit
theorem readByte_row (R RB RD r k : Nat) (T : TypeId) (lb lr : Int) (c : UInt8) (cells : Array Value) (w : World) (hk : k <= 4096) (hrk : r < k)
  (hR : Blk w R (rdA RB RD r k .nilIface lb lr) T) (hB : Blk w RB cells 5) (hc : cells[r]? = some (.int .u8 c.toNat)) (h1 : R ≠ RB) :
  Calls Tryz.prog 248 #[.pointer (some ⟨R, 0, none⟩)] w fun e w' => e = .returned (.tuple #[.int .u8 c.toNat, .nilIface]) /\
   ∃ lb' lr', Blk w' R (rdA RB RD (r + 1) k .nilIface lb' lr') T /\ Fr (fun x => x = R) w w' := by
 have c0 := hR.cell 0
 have c2 := hR.cell 2
 have c3 := hR.cell 3
 have c5 := hR.cell 5
 have c6 := hR.cell 6
 simp [rdA] at c0 c2 c3 c5 c6
 have f2 := hR.fz 2
 have f5 := hR.fz 5
 have f6 := hR.fz 6
 have cr : w.cell? ⟨RB, r, none⟩ = some (.int .u8 c.toNat) := (hB.cell r).trans hc
 have hR' := zz hR
 have e1 : ((r : Int) == k) = false := by rw [beq_eq_false_iff_ne]; omega
 have e2 : (r : Int) < 4096 := by omega
 have e3 : (0 : Int) <= r := by omega
 clear hR hB
 go_enter Tryz.func248, Tryz.ntmps248
 go_wp2
 refine wp_loop_rounds 1 ?_
 rw [rounds_succ]
 go_wp2
 go_quiet (fail)
 go_wp2
 go_quiet (fail)
 go_wp2
 go_ret2
 refine ⟨rfl, _, -1, ((Blk.set hR'.out 6 _).set 2 _).set 5 _, ?_⟩
 exact ((((Fr.refl (fun x => x = R) w).set (Or.inl rfl) _ _).drewN _).set (Or.inl rfl) _ _).set (Or.inl rfl) _ _
theorem readByte_fill (R RB RD k : Nat) (lb lr : Int) (c : UInt8) (t : List UInt8) (s : ByteArray) (cells : Array Value) (w : World) (hk : k <= 4096) (hs : s.data.toList = c :: t) (hs2 : s.size <= 1099511627776) (hcs : cells.size = 4096)
  (hR : Blk w R (rdA RB RD k k .nilIface lb lr) 297) (hD : Blk w RD (rdrA s) 79) (hB : Blk w RB cells 5) (h1 : R ≠ RB) (h2 : R ≠ RD) (h3 : RD ≠ RB) :
  Calls Tryz.prog 248 #[.pointer (some ⟨R, 0, none⟩)] w fun e w' => e = .returned (.tuple #[.int .u8 c.toNat, .nilIface]) /\
   ∃ lb' lr', Blk w' R (rdA RB RD 1 (min s.size 4096) .nilIface lb' lr') 297 /\ Blk w' RD (rdrA (s.extract (min s.size 4096) s.size)) 79 /\
   Blk w' RB ((bv s.data.toList).take (min s.size 4096) ++ cells.toList.drop (min s.size 4096)).toArray 5 /\ Fr (fun x => x = R \/ x = RD \/ x = RB) w w' := by
 have hsz : 0 < s.size := by rw [Lib.size_eq, hs]; simp
 have c2 := hR.cell 2
 have c3 := hR.cell 3
 have c4 := hR.cell 4
 have c6 := hR.cell 6
 simp [rdA] at c2 c3 c4 c6
 have f6 := hR.fz 6
 have hfill := fun n => (fill_some R RB RD k 297 79 lb (-1) s cells ((w.setCell ⟨R, 6, none⟩ (.int .i64 (-1))).drewN n) hsz hs2 hk hcs (hR.set 6 (.int .i64 (-1))) (hD.set_ne (p := ⟨R, 6, none⟩) (Ne.symm h2) _) (hB.set_ne (p := ⟨R, 6, none⟩) (Ne.symm h1) _) h1 h2 h3).mono (R' := fun e w1 => e = .returned (.tuple #[]) /\
   w1.cell? ⟨R, 0, none⟩ = some (.slice (some ⟨RB, 0, none⟩) 4096 4096) /\ w1.cell? ⟨R, 2, none⟩ = some (.int .i64 0) /\ w1.cell? ⟨R, 3, none⟩ = some (.int .i64 ((min s.size 4096 : Nat) : Int)) /\ w1.cell? ⟨R, 5, none⟩ = some (.int .i64 lb) /\ w1.frozen? ⟨R, 2, none⟩ = false /\ w1.frozen? ⟨R, 5, none⟩ = false /\ w1.cell? ⟨RB, 0, none⟩ = some (.int .u8 c.toNat) /\
   Hid (Blk w1 R (rdA RB RD 0 (min s.size 4096) .nilIface lb (-1)) 297 /\ Blk w1 RD (rdrA (s.extract (min s.size 4096) s.size)) 79 /\
   Blk w1 RB ((bv s.data.toList).take (min s.size 4096) ++ cells.toList.drop (min s.size 4096)).toArray 5 /\ Fr (fun x => x = R \/ x = RD \/ x = RB) w w1)) (by
  rintro e w1 ⟨g0, g1, g2, g3, g4⟩
  refine ⟨g0, by rw [g1.cell]; rfl, by rw [g1.cell]; rfl, by rw [g1.cell]; rfl, by rw [g1.cell]; rfl, g1.fz 2, g1.fz 5, ?_, g1, g2, g3, ?_⟩
  ·rw [g3.cell, hs]
   obtain ⟨q, hq⟩ : ∃ q, min s.size 4096 = q + 1 := ⟨min s.size 4096 - 1, by omega⟩
   rw [hq]; simp [bv]
  ·exact (((Fr.refl (fun x => x = R \/ x = RD \/ x = RB) w).set (Or.inl (Or.inl rfl)) _ _).drewN n).trans g4 (fun x hx => Or.inl hx))
 have e1 : ((0 : Int) == ((min s.size 4096 : Nat) : Int)) = false := by rw [beq_eq_false_iff_ne]; omega
 generalize min s.size 4096 = m at hfill e1
 clear hR hD hB
 go_enter Tryz.func248, Tryz.ntmps248
 go_wp2
 refine wp_loop_rounds 2 ?_
 rw [rounds_succ]
 go_wp2
 go_quiet (fail)
 go_wp2_with (first | (go_at_call 249; refine (hfill _).mono ?_; rintro e w1 ⟨rfl, k0, k2, k3, k5, q2, q5, kb, hh⟩))
 rw [rounds_succ]
 go_wp2
 go_quiet (fail)
 go_wp2
 go_quiet (fail)
 go_wp2
 go_ret2
 obtain ⟨g1, g2, g3, g4⟩ := hh.out
 refine ⟨rfl, _, -1, (Blk.set g1 2 _).set 5 _, (Blk.set_ne (p := ⟨R, 2, none⟩) g2 (Ne.symm h2) _).set_ne (Ne.symm h2) _, (Blk.set_ne (p := ⟨R, 2, none⟩) g3 (Ne.symm h1) _).set_ne (Ne.symm h1) _, ?_⟩
 exact (((g4.drewN _).set (Or.inl (Or.inl rfl)) _ _)).set (Or.inl (Or.inl rfl)) _ _
theorem readByte_eof (R RB RD k : Nat) (lb lr : Int) (et : TypeId) (ep : Addr) (w : World) (hG : w.cell? ⟨0, 0, none⟩ = some (.iface et (.pointer (some ep)))) (hR0 : R ≠ 0) (hk : k <= 4096)
  (hR : Blk w R (rdA RB RD k k .nilIface lb lr) 297) (hD : Blk w RD (rdrA ⟨#[]⟩) 79) (h2 : R ≠ RD) :
  Calls Tryz.prog 248 #[.pointer (some ⟨R, 0, none⟩)] w fun e w' => e = .returned (.tuple #[.int .u8 0, .iface et (.pointer (some ep))]) /\
   ∃ lb' lr', Blk w' R (rdA RB RD 0 0 .nilIface lb' lr') 297 /\ Fr (fun x => x = R) w w' := by
 have c2 := hR.cell 2
 have c3 := hR.cell 3
 have c4 := hR.cell 4
 have c6 := hR.cell 6
 simp [rdA] at c2 c3 c4 c6
 have f6 := hR.fz 6
 have hfill := fun n => (fill_eof R RB RD k 297 79 lb (-1) et ep ((w.setCell ⟨R, 6, none⟩ (.int .i64 (-1))).drewN n) ((World.cell?_setCell_far _ ⟨R, 6, none⟩ ⟨0, 0, none⟩ _ hR0).trans hG) hR0 hk (hR.set 6 (.int .i64 (-1))) (hD.set_ne (p := ⟨R, 6, none⟩) (Ne.symm h2) _) h2).mono (R' := fun e w1 => e = .returned (.tuple #[]) /\
   w1.cell? ⟨R, 2, none⟩ = some (.int .i64 0) /\ w1.cell? ⟨R, 3, none⟩ = some (.int .i64 0) /\ w1.cell? ⟨R, 4, none⟩ = some (.iface et (.pointer (some ep))) /\ w1.frozen? ⟨R, 4, none⟩ = false /\
   Hid (Blk w1 R (rdA RB RD 0 0 (.iface et (.pointer (some ep))) lb (-1)) 297 /\ Fr (fun x => x = R) w w1)) (by
  rintro e w1 ⟨g0, g1, g4⟩
  refine ⟨g0, by rw [g1.cell]; rfl, by rw [g1.cell]; rfl, by rw [g1.cell]; rfl, g1.fz 4, g1, ?_⟩
  exact (((Fr.refl (fun x => x = R) w).set (Or.inl rfl) _ _).drewN n).trans g4 (fun x hx => Or.inl hx))
 clear hR hD
 go_enter Tryz.func248, Tryz.ntmps248
 go_wp2
 refine wp_loop_rounds 2 ?_
 rw [rounds_succ]
 go_wp2
 go_quiet (fail)
 go_wp2_with (first | (go_at_call 249; refine (hfill _).mono ?_; rintro e w1 ⟨rfl, k2, k3, k4, q4, hh⟩))
 rw [rounds_succ]
 go_wp2
 go_quiet (fail)
 go_wp2
 go_ret2
 obtain ⟨g1, g4⟩ := hh.out
 exact ⟨rfl, _, -1, Blk.set g1 4 _, (g4.drewN _).set (Or.inl rfl) _ _⟩
end
section
open Go.RowKit
theorem readByte_cons (R RB RD : Nat) (c : UInt8) (t : List UInt8) (w : World) (h : Src w R RB RD (c :: t)) :
  Calls Tryz.prog 248 #[.pointer (some ⟨R, 0, none⟩)] w fun e w' => e = .returned (.tuple #[.int .u8 c.toNat, .nilIface]) /\
   Src w' R RB RD t /\ Fr (fun x => x = R \/ x = RD \/ x = RB) w w' := by
 obtain ⟨⟨r, k, lb, lr, cells, pre, s, hR, hD, hB, hcs, hk, hk2, hp, hst, hsz⟩, n1, n2, n3⟩ := h
 match pre, hst, hk, hp with
 | [], hst, hk, hp =>
  have e : r = k := by simpa using hk
  subst e
  have hs : s.data.toList = c :: t := by simpa using hst.symm
  have hs1 : s.size = t.length + 1 := by rw [Lib.size_eq, hs]; rfl
  refine (readByte_fill R RB RD r lb lr c t s cells w hk2 hs hsz hcs hR hD hB n1 n2 n3).mono ?_
  rintro e w1 ⟨rfl, lb', lr', g1, g2, g3, g4⟩
  refine ⟨rfl, ⟨⟨1, _, lb', lr', _, t.take (min s.size 4096 - 1), _, g1, g2, g3, ?_, ?_, by omega, ?_, ?_, ?_⟩, n1, n2, n3⟩, g4⟩
  ·simp [bv_len, hs, hcs]; omega
  ·simp; omega
  ·intro i hi
   rw [hs]
   have h1 : i < min s.size 4096 - 1 := by simp at hi; omega
   have h2 : i < t.length := by simp at hi; omega
   have hm : 1 + i < min s.size 4096 := by omega
   simp only [List.getElem?_toArray]
   rw [List.getElem?_append_left (by simp [bv_len]; omega), List.getElem?_take_of_lt hm]
   rw [Nat.add_comm 1 i]
   simp only [bv, List.map_cons, List.getElem?_cons_succ, List.getElem?_map, List.getElem_take]
   rw [List.getElem?_eq_getElem h2]
   rfl
  ·have : (s.extract (min s.size 4096) s.size).data.toList = s.data.toList.drop (min s.size 4096) := by
    rw [ByteArray.data_extract, Array.toList_extract]
    show List.extract s.data.toList _ s.size = _
    rw [List.extract_eq_take_drop, Lib.size_eq, List.take_of_length_le (by simp)]
   rw [this, hs]
   obtain ⟨q, hq⟩ : ∃ q, min s.size 4096 = q + 1 := ⟨min s.size 4096 - 1, by omega⟩
   rw [hq]
   simp
  ·simp; omega
 | c' :: pre', hst, hk, hp =>
  simp only [List.cons_append, List.cons.injEq] at hst
  obtain ⟨rfl, hst⟩ := hst
  have hc := hp 0 (by simp)
  simp only [Nat.add_zero, List.getElem_cons_zero] at hc
  simp only [List.length_cons] at hk
  refine (readByte_row R RB RD r k 297 lb lr c cells w hk2 (by omega) hR hB hc n1).mono ?_
  rintro e w1 ⟨rfl, lb', lr', g1, g4⟩
  refine ⟨rfl, ⟨⟨r + 1, k, lb', lr', cells, pre', s, g1, hD.keep g4 (fun h => n2 h.symm), hB.keep g4 (fun h => n1 h.symm), hcs, by omega, hk2, ?_, hst, hsz⟩, n1, n2, n3⟩, g4.mono (fun x hx => Or.inl (Or.inl hx))⟩
  intro i hi
  have := hp (i + 1) (by simp; omega)
  simpa [Nat.add_assoc, Nat.add_comm 1 i] using this
theorem readByte_nil (R RB RD : Nat) (et : TypeId) (ep : Addr) (w : World) (hG : w.cell? ⟨0, 0, none⟩ = some (.iface et (.pointer (some ep)))) (hR0 : R ≠ 0) (h : Src w R RB RD []) :
  Calls Tryz.prog 248 #[.pointer (some ⟨R, 0, none⟩)] w fun e w' => e = .returned (.tuple #[.int .u8 0, .iface et (.pointer (some ep))]) /\
   Src w' R RB RD [] /\ Fr (fun x => x = R \/ x = RD \/ x = RB) w w' := by
 obtain ⟨⟨r, k, lb, lr, cells, pre, s, hR, hD, hB, hcs, hk, hk2, hp, hst, hsz⟩, n1, n2, n3⟩ := h
 have h0 : pre = [] /\ s.data.toList = [] := by
  have := hst.symm; simpa using this
 obtain ⟨rfl, hs⟩ := h0
 have e : r = k := by simpa using hk
 subst e
 have hs' : s = ⟨#[]⟩ := by
  cases s; congr; simpa using hs
 subst hs'
 refine (readByte_eof R RB RD r lb lr et ep w hG hR0 hk2 hR hD n2).mono ?_
 rintro e w1 ⟨rfl, lb', lr', g1, g4⟩
 refine ⟨rfl, ⟨⟨0, 0, lb', lr', cells, [], ⟨#[]⟩, g1, hD.keep g4 (fun h => n2 h.symm), hB.keep g4 (fun h => n1 h.symm), hcs, rfl, by omega, fun i hi => absurd hi (Nat.not_lt_zero _), rfl, by decide⟩, n1, n2, n3⟩, g4.mono (fun x hx => Or.inl (Or.inl hx))⟩
end
section
open Go.Lib
def okR (r : Nat) : Prop := r < 55296 \/ (57344 <= r /\ r <= 1114111)
instance (r : Nat) : Decidable (okR r) := by unfold okR; infer_instance
def u8 (r : Nat) : List UInt8 :=
 if r < 128 then [UInt8.ofNat r]
 else if r < 2048 then [UInt8.ofNat (192 + r / 64), UInt8.ofNat (128 + r % 64)]
 else if r < 65536 then [UInt8.ofNat (224 + r / 4096), UInt8.ofNat (128 + r / 64 % 64), UInt8.ofNat (128 + r % 64)]
 else [UInt8.ofNat (240 + r / 262144), UInt8.ofNat (128 + r / 4096 % 64), UInt8.ofNat (128 + r / 64 % 64), UInt8.ofNat (128 + r % 64)]
theorem ofNat_toNat {n : Nat} (h : n < 256) : (UInt8.ofNat n).toNat = n := by simp; omega
theorem u8_len (r : Nat) : 1 <= (u8 r).length /\ (u8 r).length <= 4 := by
 unfold u8; repeat' split
 all_goals simp
theorem u8_ascii {r : Nat} (h : r < 128) : u8 r = [UInt8.ofNat r] := by simp [u8, h]
theorem decodeL_u8 (r : Nat) (hr : okR r) (t : List UInt8) : decodeL (u8 r ++ t) = (r, (u8 r).length) := by
 unfold okR at hr
 rw [decodeL_N]
 unfold u8
 repeat' split
 ·have h : r < 128 := by assumption
  have e : (UInt8.ofNat r).toNat = r := ofNat_toNat (by omega)
  simp [decodeN, e, h]
 ·have e0 : (UInt8.ofNat (192 + r / 64)).toNat = 192 + r / 64 := ofNat_toNat (by omega)
  have e1 : (UInt8.ofNat (128 + r % 64)).toNat = 128 + r % 64 := ofNat_toNat (by omega)
  have a0 : ¬ (192 + r / 64 < 128) := by omega
  have a1 : (192 + r / 64) / 32 = 6 := by omega
  have a2 : (128 + r % 64) / 64 = 2 := by omega
  have a3 : (192 + r / 64) % 32 * 64 + (128 + r % 64) % 64 = r := by omega
  have a4 : r ≥ 128 := by omega
  simp only [decodeN, List.cons_append, List.nil_append, List.getD_cons_zero, List.getD_cons_succ, e0, e1, a0, a1, a2, a3, if_false]
  simp [a4]
 ·have e0 : (UInt8.ofNat (224 + r / 4096)).toNat = 224 + r / 4096 := ofNat_toNat (by omega)
  have e1 : (UInt8.ofNat (128 + r / 64 % 64)).toNat = 128 + r / 64 % 64 := ofNat_toNat (by omega)
  have e2 : (UInt8.ofNat (128 + r % 64)).toNat = 128 + r % 64 := ofNat_toNat (by omega)
  have a0 : ¬ (224 + r / 4096 < 128) := by omega
  have a1 : ¬ ((224 + r / 4096) / 32 = 6) := by omega
  have a1' : (224 + r / 4096) / 16 = 14 := by omega
  have a2 : (128 + r % 64) / 64 = 2 := by omega
  have a2' : (128 + r / 64 % 64) / 64 = 2 := by omega
  have a3 : (224 + r / 4096) % 16 * 4096 + (128 + r / 64 % 64) % 64 * 64 + (128 + r % 64) % 64 = r := by omega
  have a4 : r ≥ 2048 /\ (r < 55296 \/ 57344 <= r /\ r <= 1114111) := by omega
  simp only [decodeN, List.cons_append, List.nil_append, List.getD_cons_zero, List.getD_cons_succ, e0, e1, e2, a0, a1, a1', a2, a2', a3, if_false, false_and]
  simp [a4]
 ·have e0 : (UInt8.ofNat (240 + r / 262144)).toNat = 240 + r / 262144 := ofNat_toNat (by omega)
  have e1 : (UInt8.ofNat (128 + r / 4096 % 64)).toNat = 128 + r / 4096 % 64 := ofNat_toNat (by omega)
  have e2 : (UInt8.ofNat (128 + r / 64 % 64)).toNat = 128 + r / 64 % 64 := ofNat_toNat (by omega)
  have e3 : (UInt8.ofNat (128 + r % 64)).toNat = 128 + r % 64 := ofNat_toNat (by omega)
  have a0 : ¬ (240 + r / 262144 < 128) := by omega
  have a1 : ¬ ((240 + r / 262144) / 32 = 6) := by omega
  have a1' : ¬ ((240 + r / 262144) / 16 = 14) := by omega
  have a1'' : (240 + r / 262144) / 8 = 30 := by omega
  have a2 : (128 + r % 64) / 64 = 2 := by omega
  have a2' : (128 + r / 64 % 64) / 64 = 2 := by omega
  have a2'' : (128 + r / 4096 % 64) / 64 = 2 := by omega
  have a3 : (240 + r / 262144) % 8 * 262144 + (128 + r / 4096 % 64) % 64 * 4096 + (128 + r / 64 % 64) % 64 * 64 + (128 + r % 64) % 64 = r := by omega
  have a4 : r ≥ 65536 /\ (r < 55296 \/ 57344 <= r /\ r <= 1114111) := by omega
  simp only [decodeN, List.cons_append, List.nil_append, List.getD_cons_zero, List.getD_cons_succ, e0, e1, e2, e3, a0, a1, a1', a1'', a2, a2', a2'', a3, if_false, false_and]
  simp [a4]
theorem decodeGo_u8 (r : Nat) (hr : okR r) (t : List UInt8) (s : ByteArray) (hs : s.data.toList = u8 r ++ t) : decodeGo s = (r, (u8 r).length) := by
 have hl := (u8_len r).1
 have h0 : s.size ≠ 0 := by rw [Lib.size_eq, hs, List.length_append]; omega
 rw [decodeGo, if_neg h0]
 have := decodeL_drop s 0
 rw [<- this, hs]
 simpa using decodeL_u8 r hr t
theorem take_u8 (l : List UInt8) (hl : 0 < l.length) (hv : ¬ ((decodeL l).1 = 65533 /\ (decodeL l).2 = 1)) : okR (decodeL l).1 /\ l.take (decodeL l).2 = u8 (decodeL l).1 := by
 rw [decodeL_N] at hv ⊢
 have k0 := (l.getD 0 0).toNat_lt
 have k1 := (l.getD 1 0).toNat_lt
 have k2 := (l.getD 2 0).toNat_lt
 have k3 := (l.getD 3 0).toNat_lt
 have hb : ∀ (x : UInt8) (n : Nat), n = x.toNat -> UInt8.ofNat n = x := by intro x n h; subst h; simp
 unfold okR
 rcases decodeN_shape l.length (l.getD 0 0).toNat (l.getD 1 0).toNat (l.getD 2 0).toNat (l.getD 3 0).toNat with ⟨c, e⟩ | ⟨c1, c2, c3, cv, e⟩ | ⟨c1, c2, c3, c4, cv, cs, e⟩ | ⟨c1, c2, c3, c4, c5, cv, cw, e⟩ | e
 ·rw [e]
  dsimp only
  refine ⟨by omega, ?_⟩
  rw [takeA l hl, u8, if_pos (by omega), hb (l.getD 0 0) _ rfl]
 ·rw [e]
  dsimp only
  refine ⟨by omega, ?_⟩
  rw [takeB l c2, u8, if_neg (by omega), if_pos (by omega), hb (l.getD 0 0) _ (by omega), hb (l.getD 1 0) _ (by omega)]
 ·rw [e]
  dsimp only
  refine ⟨by omega, ?_⟩
  rw [takeC l c2, u8, if_neg (by omega), if_neg (by omega), if_pos (by omega), hb (l.getD 0 0) _ (by omega), hb (l.getD 1 0) _ (by omega), hb (l.getD 2 0) _ (by omega)]
 ·rw [e]
  dsimp only
  refine ⟨by omega, ?_⟩
  rw [takeD l c2, u8, if_neg (by omega), if_neg (by omega), if_neg (by omega), hb (l.getD 0 0) _ (by omega), hb (l.getD 1 0) _ (by omega), hb (l.getD 2 0) _ (by omega), hb (l.getD 3 0) _ (by omega)]
 ·rw [e] at hv
  exact absurd ⟨rfl, rfl⟩ hv
theorem encode_u8 (r : Nat) (hr : okR r) : (Utf8.encode r).data.toList = u8 r := by
 have hv : Utf8.valid r = true := by
  unfold okR at hr
  simp [Utf8.valid]; omega
 unfold Utf8.encode u8
 simp only [hv, if_true, Int.toNat_natCast]
 repeat' split
 all_goals first | rfl | omega
def UT (w : World) : Prop := Lib.Utf8Tabs 3 4 w
theorem UT.fr {F : Nat -> Prop} {w w' : World} (h : UT w) (hf : Fr F w w') (h3 : ¬ F 3) (h4 : ¬ F 4) : UT w' :=
 ⟨fun c hc => hf.cell h3 (h.1 c hc), fun i hi => ⟨hf.cell h4 (h.2 i hi).1, hf.cell h4 (h.2 i hi).2⟩⟩
end
section
open Go.RowKit
structure Dx where
 B : Nat
 D : Nat
 R : Nat
 RB : Nat
 RD : Nat
 et : TypeId
 ep : Addr
 ns : Value
 ent : Value
structure Pa where
 stk : Value
 depth : Int
 free : Value
 need : Bool
 tcS : ByteArray
 tcL : ByteArray
def Dx.eof (E : Dx) : Value := .iface E.et (.pointer (some E.ep))
def decA (E : Dx) (p : Pa) (v x9 : Value) (nb : Int) (err : Value) (line ls off : Int) : Array Value :=
 #[.bool true, .slice none 0 0, E.ent, .nilFunc, .string ⟨#[]⟩, .iface 259 (.pointer (some ⟨E.R, 0, none⟩)), .nilIface, v, .int .i64 0, x9, .pointer none, p.stk, .int .i64 p.depth, p.free, .bool p.need,
  .string p.tcS, .string p.tcL, .nilIface, .int .i64 nb, E.ns, err, .int .i64 line, .int .i64 ls, .int .i64 off]
structure Dec (E : Dx) (w : World) (p : Pa) (v : Value) (bs : List UInt8) (nb eo : Bool) (strm : List UInt8) : Prop where
 ex : ∃ (x9 : Value) (n line ls off : Int) (rest : List UInt8), Blk w E.D (decA E p v x9 n (if eo then E.eof else .nilIface) line ls off) 152 /\ Src w E.R E.RB E.RD rest /\
  (n = -1 /\ strm = rest \/ nb = true /\ ∃ c : UInt8, n = c.toNat /\ strm = c :: rest)
 eos : eo = true -> strm = []
 row : BufRow w v bs
 hG : w.cell? ⟨0, 0, none⟩ = some E.eof
 ut : UT w
 n0 : 5 <= E.B /\ E.B <= E.D /\ E.B <= E.R /\ E.B <= E.RB /\ E.B <= E.RD
 n1 : E.D ≠ E.R /\ E.D ≠ E.RB /\ E.D ≠ E.RD
 n2 : ∀ k, v.ownBlock = some k -> E.B <= k /\ k ≠ E.D /\ k ≠ E.R /\ k ≠ E.RB /\ k ≠ E.RD
def Dx.rd (E : Dx) (x : Nat) : Prop := x = E.D \/ x = E.R \/ x = E.RD \/ x = E.RB
theorem method_readByte (a : Addr) (w : World) : (method 453 259 (.pointer (some a)) "ReadByte").run Tryz.prog w = .ok (248, .pointer (some a)) w := by kernel_rfl
theorem Dx.eof_ne (E : Dx) : E.eof ≠ .nilIface := by simp [Dx.eof]
theorem getc_back (E : Dx) (p : Pa) (v x9 : Value) (line ls off : Int) (c : UInt8) (w : World) (hD : Blk w E.D (decA E p v x9 c.toNat .nilIface line ls off) 152) :
  Calls Tryz.prog 111 #[.pointer (some ⟨E.D, 0, none⟩)] w fun e w' => e = .returned (.tuple #[.int .u8 c.toNat, .bool true]) /\
   ∃ line' ls' off', Blk w' E.D (decA E p v x9 (-1) .nilIface line' ls' off') 152 /\ Fr (fun x => x = E.D) w w' := by
 have c18 := hD.cell 18
 have c20 := hD.cell 20
 have c21 := hD.cell 21
 have c23 := hD.cell 23
 simp [decA] at c18 c20 c21 c23
 have f18 := hD.fz 18
 have f21 := hD.fz 21
 have f22 := hD.fz 22
 have f23 := hD.fz 23
 obtain ⟨x22, c22⟩ : ∃ x, w.cell? ⟨E.D, 22, none⟩ = some x := ⟨_, hD.cell 22⟩
 have hc := c.toNat_lt
 have e1 : ((c.toNat : Int) : Int) ≥ 0 := by omega
 have e2 : IntKind.u8.wrap (c.toNat : Int) = c.toNat := IntWalk.u8_in _ (by omega)
 have hD' := zz hD
 clear hD
 go_enter Tryz.func111, Tryz.ntmps111
 by_cases h10 : ((c.toNat : Int) == 10) = true
 ·go_wp2
  go_ret2
  refine ⟨rfl, _, _, _, (((Blk.set hD'.out 18 _).set 21 _).set 22 _).set 23 _, ?_⟩
  exact ((((Fr.refl (fun x => x = E.D) w).set (Or.inl rfl) _ _).set (Or.inl rfl) _ _).set (Or.inl rfl) _ _).set (Or.inl rfl) _ _
 ·have h10' : ((c.toNat : Int) == 10) = false := by simpa using h10
  clear h10
  go_wp2
  go_ret2
  refine ⟨rfl, _, _, _, (Blk.set hD'.out 18 _).set 23 _, ?_⟩
  exact ((Fr.refl (fun x => x = E.D) w).set (Or.inl rfl) _ _).set (Or.inl rfl) _ _
end
section
open Go.RowKit
theorem Dx.rdD (E : Dx) : E.rd E.D := Or.inl rfl
theorem getc_read (E : Dx) (p : Pa) (v x9 : Value) (line ls off : Int) (c : UInt8) (t : List UInt8) (w : World) (hD : Blk w E.D (decA E p v x9 (-1) .nilIface line ls off) 152)
  (hs : Src w E.R E.RB E.RD (c :: t)) (n1 : E.D ≠ E.R /\ E.D ≠ E.RB /\ E.D ≠ E.RD) :
  Calls Tryz.prog 111 #[.pointer (some ⟨E.D, 0, none⟩)] w fun e w' => e = .returned (.tuple #[.int .u8 c.toNat, .bool true]) /\
   ∃ line' ls' off', Blk w' E.D (decA E p v x9 (-1) .nilIface line' ls' off') 152 /\ Src w' E.R E.RB E.RD t /\ Fr E.rd w w' := by
 have c18 := hD.cell 18
 have c20 := hD.cell 20
 have c5 := hD.cell 5
 simp [decA] at c18 c20 c5
 have hread := (readByte_cons E.R E.RB E.RD c t w hs).mono (R' := fun e w1 => e = .returned (.tuple #[.int .u8 c.toNat, .nilIface]) /\
   w1.cell? ⟨E.D, 20, none⟩ = some .nilIface /\ w1.cell? ⟨E.D, 10, none⟩ = some (.pointer none) /\ w1.cell? ⟨E.D, 21, none⟩ = some (.int .i64 line) /\ w1.cell? ⟨E.D, 22, none⟩ = some (.int .i64 ls) /\ w1.cell? ⟨E.D, 23, none⟩ = some (.int .i64 off) /\
   w1.frozen? ⟨E.D, 20, none⟩ = false /\ w1.frozen? ⟨E.D, 21, none⟩ = false /\ w1.frozen? ⟨E.D, 22, none⟩ = false /\ w1.frozen? ⟨E.D, 23, none⟩ = false /\
   Hid (Blk w1 E.D (decA E p v x9 (-1) .nilIface line ls off) 152 /\ Src w1 E.R E.RB E.RD t /\ Fr E.rd w w1)) (by
  rintro e w1 ⟨g0, g1, g4⟩
  have g5 : Blk w1 E.D (decA E p v x9 (-1) .nilIface line ls off) 152 := hD.keep g4 (fun h => h.elim n1.1 (fun h => h.elim n1.2.2 n1.2.1))
  refine ⟨g0, by rw [g5.cell]; rfl, by rw [g5.cell]; rfl, by rw [g5.cell]; rfl, by rw [g5.cell]; rfl, by rw [g5.cell]; rfl, g5.fz _, g5.fz _, g5.fz _, g5.fz _, g5, g1, g4.mono (fun x hx => Or.inl (Or.inr hx))⟩)
 have hm := method_readByte ⟨E.R, 0, none⟩
 clear hD hs
 go_enter Tryz.func111, Tryz.ntmps111
 by_cases h10 : ((c.toNat : Int) == 10) = true
 ·go_wp2_with (first | (go_at_call 248; refine hread.mono ?_; rintro e w1 ⟨rfl, k20, k10, k21, k22, k23, q20, q21, q22, q23, hh⟩))
  go_ret2
  obtain ⟨g1, g2, g4⟩ := hh.out
  refine ⟨rfl, _, _, _, (((Blk.set g1 20 _).set 21 _).set 22 _).set 23 _, ?_, ?_⟩
  ·exact g2.keep ((((Fr.refl (fun x => x = E.D) w1).set (Or.inl rfl) _ _).set (Or.inl rfl) _ _).set (Or.inl rfl) _ _ |>.set (Or.inl rfl) _ _) (Ne.symm n1.1) (Ne.symm n1.2.1) (Ne.symm n1.2.2)
  ·exact (((g4.set (Or.inl E.rdD) _ _).set (Or.inl E.rdD) _ _).set (Or.inl E.rdD) _ _).set (Or.inl E.rdD) _ _
 ·have h10' : ((c.toNat : Int) == 10) = false := by simpa using h10
  clear h10
  go_wp2_with (first | (go_at_call 248; refine hread.mono ?_; rintro e w1 ⟨rfl, k20, k10, k21, k22, k23, q20, q21, q22, q23, hh⟩))
  go_ret2
  obtain ⟨g1, g2, g4⟩ := hh.out
  refine ⟨rfl, _, _, _, (Blk.set g1 20 _).set 23 _, ?_, ?_⟩
  ·exact g2.keep (((Fr.refl (fun x => x = E.D) w1).set (Or.inl rfl) _ _).set (Or.inl rfl) _ _) (Ne.symm n1.1) (Ne.symm n1.2.1) (Ne.symm n1.2.2)
  ·exact (g4.set (Or.inl E.rdD) _ _).set (Or.inl E.rdD) _ _
theorem getc_end (E : Dx) (p : Pa) (v x9 : Value) (line ls off : Int) (w : World) (hD : Blk w E.D (decA E p v x9 (-1) .nilIface line ls off) 152)
  (hs : Src w E.R E.RB E.RD []) (hG : w.cell? ⟨0, 0, none⟩ = some E.eof) (hR0 : E.R ≠ 0) (n1 : E.D ≠ E.R /\ E.D ≠ E.RB /\ E.D ≠ E.RD) :
  Calls Tryz.prog 111 #[.pointer (some ⟨E.D, 0, none⟩)] w fun e w' => e = .returned (.tuple #[.int .u8 0, .bool false]) /\
   Blk w' E.D (decA E p v x9 (-1) E.eof line ls off) 152 /\ Src w' E.R E.RB E.RD [] /\ Fr E.rd w w' := by
 have c18 := hD.cell 18
 have c20 := hD.cell 20
 have c5 := hD.cell 5
 simp [decA] at c18 c20 c5
 have hread := (readByte_nil E.R E.RB E.RD E.et E.ep w hG hR0 hs).mono (R' := fun e w1 => e = .returned (.tuple #[.int .u8 0, .iface E.et (.pointer (some E.ep))]) /\
   w1.cell? ⟨E.D, 20, none⟩ = some .nilIface /\
   w1.frozen? ⟨E.D, 20, none⟩ = false /\
   Hid (Blk w1 E.D (decA E p v x9 (-1) .nilIface line ls off) 152 /\ Src w1 E.R E.RB E.RD [] /\ Fr E.rd w w1)) (by
  rintro e w1 ⟨g0, g1, g4⟩
  have g5 : Blk w1 E.D (decA E p v x9 (-1) .nilIface line ls off) 152 := hD.keep g4 (fun h => h.elim n1.1 (fun h => h.elim n1.2.2 n1.2.1))
  refine ⟨g0, by rw [g5.cell]; rfl, g5.fz _, g5, g1, g4.mono (fun x hx => Or.inl (Or.inr hx))⟩)
 have hm := method_readByte ⟨E.R, 0, none⟩
 clear hD hs
 go_enter Tryz.func111, Tryz.ntmps111
 go_wp2_with (first | (go_at_call 248; refine hread.mono ?_; rintro e w1 ⟨rfl, k20, q20, hh⟩))
 go_ret2
 obtain ⟨g1, g2, g4⟩ := hh.out
 refine ⟨rfl, Blk.set g1 20 _, ?_, ?_⟩
 ·exact g2.keep ((Fr.refl (fun x => x = E.D) w1).set (Or.inl rfl) _ _) (Ne.symm n1.1) (Ne.symm n1.2.1) (Ne.symm n1.2.2)
 ·exact (g4.set (Or.inl E.rdD) _ _)
theorem ungetc_do (E : Dx) (p : Pa) (v x9 err : Value) (line ls off n : Int) (c : UInt8) (w : World) (hD : Blk w E.D (decA E p v x9 n err line ls off) 152) :
  Calls Tryz.prog 112 #[.pointer (some ⟨E.D, 0, none⟩), .int .u8 c.toNat] w fun e w' => e = .returned (.tuple #[]) /\
   ∃ line' off', Blk w' E.D (decA E p v x9 c.toNat err line' ls off') 152 /\ Fr (fun x => x = E.D) w w' := by
 have c18 := hD.cell 18
 have c21 := hD.cell 21
 have c23 := hD.cell 23
 simp [decA] at c18 c21 c23
 have f18 := hD.fz 18
 have f21 := hD.fz 21
 have f23 := hD.fz 23
 have hc := c.toNat_lt
 have e2 : IntKind.i64.wrap (c.toNat : Int) = c.toNat := IntWalk.i64_in _ (by omega)
 have hD' := zz hD
 clear hD
 go_enter Tryz.func112, Tryz.ntmps112
 by_cases h10 : ((c.toNat : Int) == 10) = true
 ·go_wp2
  go_end0
  refine ⟨rfl, _, _, ((Blk.set hD'.out 21 _).set 18 _).set 23 _, ?_⟩
  exact (((Fr.refl (fun x => x = E.D) w).set (Or.inl rfl) _ _).set (Or.inl rfl) _ _).set (Or.inl rfl) _ _
 ·have h10' : ((c.toNat : Int) == 10) = false := by simpa using h10
  clear h10
  go_wp2
  go_end0
  refine ⟨rfl, _, _, (Blk.set hD'.out 18 _).set 23 _, ?_⟩
  exact ((Fr.refl (fun x => x = E.D) w).set (Or.inl rfl) _ _).set (Or.inl rfl) _ _
end
section
open Go.RowKit
theorem Dec.up {E : Dx} {w : World} {p : Pa} {v : Value} {bs strm : List UInt8} {nb eo : Bool} (h : Dec E w p v bs nb eo strm) : Dec E w p v bs true eo strm := by
 obtain ⟨⟨x9, n, line, ls, off, rest, a, b, c⟩, r⟩ := h
 exact ⟨⟨x9, n, line, ls, off, rest, a, b, c.imp id (fun c => ⟨rfl, c.2⟩)⟩, by assumption, by assumption, by assumption, by assumption, by assumption, by assumption, by assumption⟩
theorem Dec.keep {F : Nat -> Prop} {E : Dx} {w w' : World} {p : Pa} {v : Value} {bs strm : List UInt8} {nb eo : Bool} (h : Dec E w p v bs nb eo strm) (hf : Fr F w w') (h0 : ∀ x, x < 5 -> ¬ F x) (h1 : ∀ x, E.rd x -> ¬ F x)
  (h2 : ∀ k, v.ownBlock = some k -> ¬ F k) : Dec E w' p v bs nb eo strm := by
 obtain ⟨⟨x9, n, line, ls, off, rest, a, b, c⟩, e0, e1, e2, eu, e3, e4, e5⟩ := h
 exact ⟨⟨x9, n, line, ls, off, rest, a.keep hf (h1 _ (.inl rfl)), b.keep hf (h1 _ (.inr (.inl rfl))) (h1 _ (.inr (.inr (.inr rfl)))) (h1 _ (.inr (.inr (.inl rfl)))), c⟩, e0, e1.keep hf h2, hf.cell (h0 0 (by omega)) e2, eu.fr hf (h0 3 (by omega)) (h0 4 (by omega)), e3, e4, e5⟩
theorem Dec.old {E : Dx} {w w' : World} {p : Pa} {v : Value} {bs strm : List UInt8} {nb eo : Bool} (h : Dec E w p v bs nb eo strm) (ho : Old w w') : Dec E w' p v bs nb eo strm :=
 h.keep ho (fun _ _ h => h) (fun _ _ h => h) (fun _ _ h => h)
theorem Dec.drewN {E : Dx} {w : World} {p : Pa} {v : Value} {bs strm : List UInt8} {nb eo : Bool} (h : Dec E w p v bs nb eo strm) (n : Nat) : Dec E (w.drewN n) p v bs nb eo strm :=
 h.old ((Fr.refl (fun _ => False) w).drewN n)
theorem Dec.rd_ge {E : Dx} {w : World} {p : Pa} {v : Value} {bs strm : List UInt8} {nb eo : Bool} (h : Dec E w p v bs nb eo strm) : ∀ x, E.rd x -> E.B <= x := by
 have := h.n0
 rintro x (rfl | rfl | rfl | rfl) <;> omega
theorem Dec.rowKeep {E : Dx} {w w' : World} {p : Pa} {v : Value} {bs strm : List UInt8} {nb eo : Bool} (h : Dec E w p v bs nb eo strm) (hf : Fr E.rd w w') : BufRow w' v bs /\ w'.cell? ⟨0, 0, none⟩ = some E.eof /\ UT w' := by
 have h5 := h.n0.1
 have hge := h.rd_ge
 obtain ⟨⟨x9, n, line, ls, off, rest, a, b, c⟩, e0, e1, e2, eu, e3, e4, e5⟩ := h
 refine ⟨e1.keep hf fun k hk => ?_, hf.cell (fun h => ?_) e2, eu.fr hf (fun h => ?_) (fun h => ?_)⟩
 ·obtain ⟨m0, m1, m2, m3, m4⟩ := e5 k hk
  rintro (h | h | h | h) <;> contradiction
 all_goals (have := hge _ h; first | omega | (simp at this; omega))
theorem getc_cons (E : Dx) (p : Pa) (v : Value) (bs : List UInt8) (nb : Bool) (c : UInt8) (t : List UInt8) (w : World) (h : Dec E w p v bs nb false (c :: t)) :
  Calls Tryz.prog 111 #[.pointer (some ⟨E.D, 0, none⟩)] w fun e w' => e = .returned (.tuple #[.int .u8 c.toNat, .bool true]) /\ Dec E w' p v bs false false t /\ Fr E.rd w w' := by
 have hh := h
 obtain ⟨⟨x9, n, line, ls, off, rest, a, b, c'⟩, e0, e1, e2, eu, e3, e4, e5⟩ := h
 rcases c' with ⟨rfl, rfl⟩ | ⟨_, c', rfl, hcs⟩
 ·refine (getc_read E p v x9 line ls off c t w a b e4).mono ?_
  rintro e w1 ⟨rfl, l', s', o', g1, g2, g3⟩
  exact ⟨rfl, ⟨⟨x9, _, l', s', o', t, g1, g2, .inl ⟨rfl, rfl⟩⟩, fun h => absurd h (by decide), (hh.rowKeep g3).1, (hh.rowKeep g3).2.1, (hh.rowKeep g3).2.2, e3, e4, e5⟩, g3⟩
 ·obtain ⟨rfl, rfl⟩ := List.cons.inj hcs
  refine (getc_back E p v x9 line ls off c w a).mono ?_
  rintro e w1 ⟨rfl, l', s', o', g1, g3⟩
  have g3' : Fr E.rd w w1 := g3.mono (fun x hx => .inl (.inl hx))
  exact ⟨rfl, ⟨⟨x9, _, l', s', o', t, g1, b.keep g3 (Ne.symm e4.1) (Ne.symm e4.2.1) (Ne.symm e4.2.2), .inl ⟨rfl, rfl⟩⟩, fun h => absurd h (by decide), (hh.rowKeep g3').1, (hh.rowKeep g3').2.1, (hh.rowKeep g3').2.2, e3, e4, e5⟩, g3'⟩
theorem getc_nil (E : Dx) (p : Pa) (v : Value) (bs : List UInt8) (nb : Bool) (w : World) (h : Dec E w p v bs nb false []) :
  Calls Tryz.prog 111 #[.pointer (some ⟨E.D, 0, none⟩)] w fun e w' => e = .returned (.tuple #[.int .u8 0, .bool false]) /\ Dec E w' p v bs false true [] /\ Fr E.rd w w' := by
 have hh := h
 obtain ⟨⟨x9, n, line, ls, off, rest, a, b, c'⟩, e0, e1, e2, eu, e3, e4, e5⟩ := h
 rcases c' with ⟨rfl, rfl⟩ | ⟨_, c', rfl, hcs⟩
 ·refine (getc_end E p v x9 line ls off w a b e2 (by have := e3; omega) e4).mono ?_
  rintro e w1 ⟨rfl, g1, g2, g3⟩
  exact ⟨rfl, ⟨⟨x9, _, line, ls, off, [], g1, g2, .inl ⟨rfl, rfl⟩⟩, fun _ => rfl, (hh.rowKeep g3).1, (hh.rowKeep g3).2.1, (hh.rowKeep g3).2.2, e3, e4, e5⟩, g3⟩
 ·simp at hcs
theorem ungetc_do' (E : Dx) (p : Pa) (v : Value) (bs : List UInt8) (c : UInt8) (t : List UInt8) (w : World) (h : Dec E w p v bs false false t) :
  Calls Tryz.prog 112 #[.pointer (some ⟨E.D, 0, none⟩), .int .u8 c.toNat] w fun e w' => e = .returned (.tuple #[]) /\ Dec E w' p v bs true false (c :: t) /\ Fr E.rd w w' := by
 have hh := h
 obtain ⟨⟨x9, n, line, ls, off, rest, a, b, c'⟩, e0, e1, e2, eu, e3, e4, e5⟩ := h
 rcases c' with ⟨rfl, rfl⟩ | ⟨h, _⟩
 ·refine (ungetc_do E p v x9 _ line ls off _ c w a).mono ?_
  rintro e w1 ⟨rfl, l', o', g1, g3⟩
  have g3' : Fr E.rd w w1 := g3.mono (fun x hx => .inl (.inl hx))
  exact ⟨rfl, ⟨⟨x9, _, l', ls, o', t, g1, b.keep g3 (Ne.symm e4.1) (Ne.symm e4.2.1) (Ne.symm e4.2.2), .inr ⟨rfl, c, rfl, rfl⟩⟩, fun h => absurd h (by decide), (hh.rowKeep g3').1, (hh.rowKeep g3').2.1, (hh.rowKeep g3').2.2, e3, e4, e5⟩, g3'⟩
 ·cases h
theorem mustgetc_cons (E : Dx) (p : Pa) (v : Value) (bs : List UInt8) (nb : Bool) (c : UInt8) (t : List UInt8) (w : World) (h : Dec E w p v bs nb false (c :: t)) :
  Calls Tryz.prog 114 #[.pointer (some ⟨E.D, 0, none⟩)] w fun e w' => e = .returned (.tuple #[.int .u8 c.toNat, .bool true]) /\ Dec E w' p v bs false false t /\ Fr E.rd w w' := by
 have hc := (getc_cons E p v bs nb c t w h).mono (R' := fun e w' => e = .returned (.tuple #[.int .u8 c.toNat, .bool true]) /\ Hid (Dec E w' p v bs false false t /\ Fr E.rd w w')) (fun _ _ h => h)
 clear h
 go_enter Tryz.func114, Tryz.ntmps114
 go_wp2_with (first | (go_at_call 111; refine hc.mono ?_; rintro e w1 ⟨rfl, hh⟩))
 go_ret2
 exact ⟨rfl, hh.out⟩
end
section
open Go.RowKit
def isWs (b : UInt8) : Bool := b == 32 || b == 13 || b == 10 || b == 9
theorem u8_ne {b : UInt8} {n : Nat} (hn : n < 256) (h : (b == UInt8.ofNat n) = false) : ((b.toNat : Int) == (n : Int)) = false := by
 rw [beq_eq_false_iff_ne] at h ⊢
 intro e
 apply h
 have : b.toNat = n := by omega
 rw [<- this]; simp
theorem space_do (E : Dx) (p : Pa) (v : Value) (bs : List UInt8) (ws : List UInt8) (c : UInt8) (t : List UInt8) (w : World) (hws : ∀ b ∈ ws, isWs b = true) (hc : isWs c = false) (h : Dec E w p v bs true false (ws ++ c :: t)) :
  Calls Tryz.prog 116 #[.pointer (some ⟨E.D, 0, none⟩)] w fun e w' => e = .returned (.tuple #[]) /\ Dec E w' p v bs true false (c :: t) /\ Fr E.rd w w' := by
 have hc' := hc
 simp only [isWs, Bool.or_eq_false_iff] at hc'
 obtain ⟨⟨⟨q1, q2⟩, q3⟩, q4⟩ := hc'
 have q1 : ((c.toNat : Int) == 32) = false := u8_ne (n := 32) (by decide) q1
 have q2 : ((c.toNat : Int) == 13) = false := u8_ne (n := 13) (by decide) q2
 have q3 : ((c.toNat : Int) == 10) = false := u8_ne (n := 10) (by decide) q3
 have q4 : ((c.toNat : Int) == 9) = false := u8_ne (n := 9) (by decide) q4
 go_enter Tryz.func116, Tryz.ntmps116
 go_wp2
 go_loopg [] ws.length (fun k wr => ∃ ws', ws'.length = k /\ (∀ b ∈ ws', isWs b = true) /\ Dec E wr p v bs true false (ws' ++ c :: t) /\ Fr E.rd w wr)
 case atStart => exact ⟨ws, rfl, hws, h, Fr.refl _ w⟩
 case round =>
  obtain ⟨ws', hl, hw', hd, hf⟩ := hrel
  match ws', hl, hw', hd with
  | [], hl, hw', hd =>
   have hg := (getc_cons E p v bs true c t wr hd).mono (R' := fun e w' => e = .returned (.tuple #[.int .u8 c.toNat, .bool true]) /\ Hid (Dec E w' p v bs false false t /\ Fr E.rd wr w')) (fun _ _ h => h)
   clear h hd
   have hf := zz hf
   go_wp2_with (first | (go_at_call 111; refine hg.mono ?_; rintro e w1 ⟨rfl, hh⟩) | (go_at_call 112; refine (ungetc_do' E p v bs c t w1 hh.out.1).mono ?_; rintro e w2 ⟨rfl, hh2⟩; have hh2 := zz hh2))
   refine bodyPost_ret (results_none rfl _ _ _) rfl ?_
   exact ⟨rfl, hh2.out.1, (hf.out.trans hh.out.2 (fun _ h => .inl h)).trans hh2.out.2 (fun _ h => .inl h)⟩
  | b :: ws'', hl, hw', hd =>
   have hg := (getc_cons E p v bs true b (ws'' ++ c :: t) wr hd).mono (R' := fun e w' => e = .returned (.tuple #[.int .u8 b.toNat, .bool true]) /\ Hid (Dec E w' p v bs false false (ws'' ++ c :: t) /\ Fr E.rd wr w')) (fun _ _ h => h)
   have hb := hw' b (by simp)
   have hrest : ∀ b ∈ ws'', isWs b = true := fun x hx => hw' x (by simp [hx])
   clear h hd
   have hf := zz hf
   have hb' : b = 32 \/ b = 13 \/ b = 10 \/ b = 9 := by simpa [isWs, or_assoc] using hb
   rcases hb' with rfl | rfl | rfl | rfl
   all_goals (
    go_wp2_with (first | (go_at_call 111; refine hg.mono ?_; rintro e w1 ⟨rfl, hh⟩))
    go_roundg ws''.length
    case measure => simp at hl; omega
    case rel => exact ⟨ws'', rfl, hrest, hh.out.1.up, hf.out.trans hh.out.2 (fun _ h => .inl h)⟩)
def isNB (b : UInt8) : Bool := decide (65 <= b.toNat /\ b.toNat <= 90 \/ 97 <= b.toNat /\ b.toNat <= 122 \/ 48 <= b.toNat /\ b.toNat <= 57 \/ b.toNat = 95 \/ b.toNat = 58 \/ b.toNat = 46 \/ b.toNat = 45)
theorem isNameByte_do (b : UInt8) (w : World) : Calls Tryz.prog 171 #[.int .u8 b.toNat] w fun e w' => e = .returned (.bool (isNB b)) /\ w' = w := by
 unfold isNB
 generalize b.toNat = n
 go_enter Tryz.func171, Tryz.ntmps171
 go_wp2
 all_goals (
  go_ret
  refine ⟨congrArg (fun b => Ending.returned (.bool b)) ?_, rfl⟩
  rw [Bool.eq_iff_iff]
  simp
  try omega)
end
end Go.Proofs.YtepbbahdhhjibaaGreatDoor
