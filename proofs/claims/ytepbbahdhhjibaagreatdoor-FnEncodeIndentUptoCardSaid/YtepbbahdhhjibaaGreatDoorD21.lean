/- own text -/
import Derived.Laws.CopyRow
import Derived.Test.YtepbbahdhhjibaaGreatDoorD06
namespace Go.Proofs.YtepbbahdhhjibaaGreatDoor
set_option linter.unusedSimpArgs false
set_option linter.unusedVariables false
set_option maxHeartbeats 1000000
set_option maxRecDepth 100000
section
open Go.RowKit
structure Wx where
 B : Nat
 BB : Nat
 W : Nat
def wrA (E : Wx) (n : Nat) : Array Value := #[.nilIface, .slice (some ⟨E.BB, 0, none⟩) 4096 4096, .int .i64 n, .iface 55 (.pointer (some ⟨E.W, 0, none⟩))]
structure Wr (E : Wx) (w : World) (va : Value) (out : List UInt8) : Prop where
 ex : ∃ a b cells, out = a ++ b /\ b.length <= 4096 /\ Blk w E.B (wrA E b.length) 196 /\ Blk w E.BB cells 5 /\ cells.size = 4096 /\ cells.toList.take b.length = bv b /\ Blk w E.W #[va] 58 /\ w.ownsRow 0 5 1 va a.length (bv a)
 ne : E.B ≠ E.BB /\ E.B ≠ E.W /\ E.BB ≠ E.W
 nv : ∀ k, va.ownBlock = some k -> k ≠ E.B /\ k ≠ E.BB /\ k ≠ E.W
def Wx.own (E : Wx) (va : Value) (x : Nat) : Prop := x = E.B \/ x = E.BB \/ x = E.W \/ va.ownBlock = some x
structure WSt (E : Wx) (w : World) (va : Value) (w' : World) (va' : Value) : Prop where
 fr : Fr (E.own va) w w'
 nw : Nw w va va'
theorem WSt.refl (E : Wx) (w : World) (va : Value) : WSt E w va w va := ⟨Fr.refl _ w, Nw.refl _ _⟩
theorem WSt.own {E : Wx} {w w' : World} {v v' : Value} (h : WSt E w v w' v') : ∀ x, E.own v' x -> E.own v x \/ w.heap.size <= x := by
 rintro x (hx | hx | hx | hx)
 ·exact .inl (.inl hx)
 ·exact .inl (.inr (.inl hx))
 ·exact .inl (.inr (.inr (.inl hx)))
 ·exact (h.nw x hx).imp (fun h => .inr (.inr (.inr h))) id
theorem WSt.trans {E : Wx} {w w1 w2 : World} {v v1 v2 : Value} (h : WSt E w v w1 v1) (k : WSt E w1 v1 w2 v2) : WSt E w v w2 v2 :=
 ⟨h.fr.trans k.fr (fun x hx => h.own x hx), h.nw.trans k.nw h.fr.size⟩
theorem WSt.ofOld {E : Wx} {w w' : World} (v : Value) (h : Old w w') : WSt E w v w' v := ⟨Fr.of_old h, Nw.refl _ _⟩
theorem WSt.drewN {E : Wx} {w w' : World} {v v' : Value} (h : WSt E w v w' v') (n : Nat) : WSt E w v (w'.drewN n) v' := ⟨h.fr.drewN n, h.nw⟩
theorem Wr.keep {F : Nat -> Prop} {E : Wx} {w w' : World} {va : Value} {out : List UInt8} (h : Wr E w va out) (f : Fr F w w') (hF : ∀ x, E.own va x -> ¬ F x) : Wr E w' va out := by
 obtain ⟨⟨a, b, cells, h1, h2, h3, h4, h5, h6, h7, h8⟩, hne, hnv⟩ := h
 exact ⟨⟨a, b, cells, h1, h2, h3.keep f (hF _ (.inl rfl)), h4.keep f (hF _ (.inr (.inl rfl))), h5, h6, h7.keep f (hF _ (.inr (.inr (.inl rfl)))), ownsRow_frame h8 f (fun k hk => hF k (.inr (.inr (.inr hk))))⟩, hne, hnv⟩
theorem Wr.old {E : Wx} {w w' : World} {va : Value} {out : List UInt8} (h : Wr E w va out) (f : Old w w') : Wr E w' va out := h.keep f (fun _ _ h => h)
theorem Wr.drewN {E : Wx} {w : World} {va : Value} {out : List UInt8} (h : Wr E w va out) (n : Nat) : Wr E (w.drewN n) va out := h.old ((Fr.refl _ w).drewN n)
theorem Wr.lt {E : Wx} {w : World} {va : Value} {out : List UInt8} (h : Wr E w va out) : ∀ x, E.own va x -> x < w.heap.size := by
 obtain ⟨a, b, cells, h1, h2, h3, h4, h5, h6, h7, h8⟩ := h.ex
 rintro x (rfl | rfl | rfl | hx)
 ·exact h3.lt
 ·exact h4.lt
 ·exact h7.lt
 ·exact ownsRow_lt h8 hx
theorem method_write (a : Addr) (w : World) : (method 453 55 (.pointer (some a)) "Write").run Tryz.prog w = .ok (217, .pointer (some a)) w := by kernel_rfl
theorem writer_write (WB : Nat) (va : Value) (a l : List UInt8) (g o n cap : Nat) (w : World) (hW : Blk w WB #[va] 58) (hrow : w.ownsRow 0 5 1 va a.length (bv a)) (hva : va.ownBlock ≠ some WB) (hl : Lies w g o l) (hn : n = l.length) (hn0 : 0 < n) (hsz : a.length + n <= 1099511627776) :
  Calls Tryz.prog 217 #[.pointer (some ⟨WB, 0, none⟩), .slice (some ⟨g, o, none⟩) n cap] w fun e w' => e = .returned (.tuple #[.int .i64 n, .nilIface]) /\ ∃ va', Blk w' WB #[va'] 58 /\ w'.ownsRow 0 5 1 va' (a ++ l).length (bv (a ++ l)) /\ Nw w va va' /\ va'.ownBlock ≠ some WB /\ Fr (fun x => x = WB \/ va.ownBlock = some x) w w' := by
 obtain ⟨i0, hi, hz0, hz1, hz2⟩ := info_parts info5
 have c0 := hW.cell 0
 simp at c0
 have hWl := hW.lt
 obtain ⟨pv, nv, cv, rfl⟩ : ∃ pv nv cv, va = .slice pv nv cv := by
  rcases hrow.2 with ⟨h1, _⟩ | ⟨g, cap, cur, h1, _⟩
  ·exact ⟨_, _, _, h1⟩
  ·exact ⟨_, _, _, h1⟩
 have hnews : ∀ j u, (bv l)[j]? = some u -> w.cell? ((⟨g, o, none⟩ : Addr).add j) = some u := by
  intro j u hj
  rw [Lib.addr_add]
  simp only [bv, List.getElem?_map, Option.map_eq_some_iff] at hj
  obtain ⟨c, hc, rfl⟩ := hj
  exact hl j c hc
 have hnl : (bv l).length = n * 1 := by rw [bv_len, hn]; omega
 have hone := bv_one l
 have hap := bv_append a l
 generalize hN : bv l = news at *
 generalize hA : bv a = xs at *
 replace hW := zz hW
 have hn' := zz hn
 clear hl hn
 go_enter Tryz.func217, Tryz.ntmps217
 go_wp2_with (at_builtin; refine wpList_append rfl _ _ 56 rfl 5 i0 _ 1 1 Tryz.underlying56 hi hz0 hz1 hz2 rfl (by decide) (.slice pv nv cv) a.length xs rfl hrow ⟨g, o, none⟩ n cap news rfl hnl hn0 hnews hone (by unfold maxLen; omega) (by omega) ?_; intro g' c' w1 hrow' hgrow hnb; have f1 : Fr (fun x => (Value.slice pv nv cv).ownBlock = some x) w w1 := (Fr.refl (fun x => (Value.slice pv nv cv).ownBlock = some x) w).grown hgrow (fun k hk => Or.inl hk); have b1 := hW.out.keep f1 (fun h => hva h); have k0 : w1.cell? ⟨WB, 0, none⟩ = some (.slice pv nv cv) := (by rw [b1.cell]; rfl); have q0 := b1.fz 0; replace hrow' := zz hrow'; replace hnb := zz hnb; replace f1 := zz f1; replace b1 := zz b1; clear hgrow)
 go_ret2
 have hg' : g' ≠ WB := by
  rcases hnb.out with h | h
  ·exact fun e => hva (e ▸ h)
  ·omega
 refine ⟨rfl, _, b1.out.set 0 _, ?_, fun k hk => ?_, ?_, ?_⟩
 ·rw [hap]
  have e1 : (a ++ l).length = a.length + n := by rw [List.length_append, hn'.out]
  rw [e1]
  exact ownsRow_setCell hrow'.out (by simp [Value.ownBlock]; exact hg') _
 ·have hk2 : k = g' := by simpa [Value.ownBlock, eq_comm] using hk
  subst hk2
  exact hnb.out
 ·simp [Value.ownBlock]; exact hg'
 ·have f2 : Fr (fun x => x = WB \/ (Value.slice pv nv cv).ownBlock = some x) w w1 := f1.out.mono (fun x hx => Or.inl (Or.inr hx))
  exact f2.set (Or.inl (Or.inl rfl)) _ _
end
section
open Go.RowKit
theorem avail_do (B n : Nat) (a : Addr) (w : World) (hn : n <= 4096) (c1 : w.cell? ⟨B, 1, none⟩ = some (.slice (some a) 4096 4096)) (c2 : w.cell? ⟨B, 2, none⟩ = some (.int .i64 n)) :
  Calls Tryz.prog 147 #[.pointer (some ⟨B, 0, none⟩)] w fun e w' => e = .returned (.int .i64 ((4096 - n : Nat) : Int)) /\ ∃ k, w' = w.drewN k := by
 have hw : IntKind.i64.wrap ((4096 : Int) - (n : Int)) = ((4096 - n : Nat) : Int) := by rw [IntWalk.i64_in _ (by omega)]; omega
 go_enter Tryz.func147, Tryz.ntmps147
 go_wp2
 go_quiet (fail)
 go_wp2
 go_ret
 exact ⟨rfl, _, rfl⟩
theorem buffered_do (B : Nat) (n : Int) (w : World) (c2 : w.cell? ⟨B, 2, none⟩ = some (.int .i64 n)) :
  Calls Tryz.prog 59 #[.pointer (some ⟨B, 0, none⟩)] w fun e w' => e = .returned (.int .i64 n) /\ w' = w := by
 go_enter Tryz.func59, Tryz.ntmps59
 go_wp2
 go_ret
 exact ⟨rfl, rfl⟩
theorem lies_take {w : World} {b : Nat} {cells : Array Value} {l : List UInt8} (h : Blk w b cells 5) (ht : cells.toList.take l.length = bv l) : Lies w b 0 l := by
 intro j c hj
 rw [Nat.zero_add, h.cell, <- Array.getElem?_toList]
 have hj' := (List.getElem?_eq_some_iff.1 hj).1
 have : (cells.toList.take l.length)[j]? = some (.int .u8 c.toNat) := by rw [ht]; simp [bv, hj]
 rw [List.getElem?_take, if_pos hj'] at this
 exact this
theorem flush_do (E : Wx) (va : Value) (out : List UInt8) (w : World) (h : Wr E w va out) (hl : out.length <= 1099511627776) :
  Calls Tryz.prog 63 #[.pointer (some ⟨E.B, 0, none⟩)] w fun e w' => e = .returned .nilIface /\ ∃ va', WSt E w va w' va' /\ Wr E w' va' out /\ w'.cell? ⟨E.B, 2, none⟩ = some (.int .i64 0) := by
 obtain ⟨⟨a, b, cells, h1, h2, h3, h4, h5, h6, h7, h8⟩, ⟨n1, n2, n3⟩, hnv⟩ := id h
 have c0 := h3.cell 0
 have c1 := h3.cell 1
 have c2 := h3.cell 2
 have c3 := h3.cell 3
 simp [wrA] at c0 c1 c2 c3
 cases b with
 | nil =>
  simp only [List.length_nil] at c2
  have c2' : w.cell? ⟨E.B, 2, none⟩ = some (.int .i64 0) := c2
  replace h := zz h
  clear c2 h3 h8 h6
  go_enter Tryz.func63, Tryz.ntmps63
  go_wp2
  go_ret
  exact ⟨rfl, va, WSt.refl E w va, h.out, c2'⟩
 | cons x b =>
  have e1 : (((x :: b).length : Nat) : Int) = (((x :: b).length : Nat) : Int) := rfl
  obtain ⟨n, hn⟩ : ∃ n, n = (x :: b).length := ⟨_, rfl⟩
  have hn1 : 1 <= n := by rw [hn]; simp
  rw [<- hn] at c2 h2
  have hz : ((n : Int) == 0) = false := by rw [beq_eq_false_iff_ne]; omega
  have hn4 : (n : Int) <= 4096 := by omega
  have hlies := lies_take (l := x :: b) h4 h6
  have hcall := fun k => (writer_write E.W va a (x :: b) E.BB 0 n 4096 (w.drewN k) h7 h8 (fun e => (hnv _ e).2.2 rfl) hlies hn (by omega) (by rw [h1, List.length_append, <- hn] at hl; omega)).mono (R' := fun e w' => e = .returned (.tuple #[.int .i64 n, .nilIface]) /\ w'.cell? ⟨E.B, 2, none⟩ = some (.int .i64 n) /\ w'.frozen? ⟨E.B, 2, none⟩ = false /\ Hid (∃ va', Blk w' E.W #[va'] 58 /\ w'.ownsRow 0 5 1 va' (a ++ (x :: b)).length (bv (a ++ (x :: b))) /\ Nw w va va' /\ Fr (fun y => y = E.W \/ va.ownBlock = some y) w w' /\ Blk w' E.B (wrA E n) 196 /\ Blk w' E.BB cells 5)) (by
   rintro e w' ⟨rfl, va', k1, k2, k3, k4, k5⟩
   have kB : Blk w' E.B (wrA E n) 196 := by
    rw [hn]
    exact Blk.keep (w := w.drewN k) h3 k5 (fun h => h.elim (fun e => n2 e) (fun e => (hnv _ e).1 rfl))
   have kBB : Blk w' E.BB cells 5 := Blk.keep (w := w.drewN k) h4 k5 (fun h => h.elim (fun e => n3 e) (fun e => (hnv _ e).2.1 rfl))
   exact ⟨rfl, by rw [kB.cell]; rfl, kB.fz 2, va', k1, k2, k3, ((Fr.refl _ w).drewN k).trans k5 (fun x hx => Or.inl hx), kB, kBB⟩)
  have hmt := fun w => method_write ⟨E.W, 0, none⟩ w
  have hwl : Hid (E.B < w.heap.size /\ E.BB < w.heap.size /\ E.W < w.heap.size) := zz ⟨h3.lt, h4.lt, h7.lt⟩
  replace hcall := zz hcall
  replace hn := zz hn
  clear h h3 h4 h6 h7 h8 hlies e1
  go_enter Tryz.func63, Tryz.ntmps63
  go_wp2
  refine wp_region_tail 15 [] [0, 1, 2, 3, 4, 5, 6, 7, 8, 9, 10, 11, 12, 13, 14] (by kernel_rfl) (by kernel_rfl) (fun _ _ _ _ _ h => h) ?_
  simp only [List.filterMap_cons, List.filterMap_nil, List.getElem?_toArray, List.getElem?_cons_zero, List.getElem?_cons_succ, List.nil_append, List.cons_append, List.drop_succ_cons, List.drop_zero]
  repeat still_step
  refine wpStill_nil ?_
  go_wp2_with (go_at_call 217; refine (hcall.out _).mono ?_; rintro e w1 ⟨rfl, m2, q2, k1⟩)
  go_ret
  obtain ⟨va', k1, k2, k3, k4, k5, k6⟩ := k1.out
  have hnw' : ∀ k, va'.ownBlock = some k -> k ≠ E.B /\ k ≠ E.BB /\ k ≠ E.W := fun k hk => by
   rcases k3 k hk with h | h
   ·exact hnv k h
   ·have hlt := hwl.out
    exact ⟨by omega, by omega, by omega⟩
  have f5 : Fr (fun y => y = E.B) w1 (w1.setCell ⟨E.B, 2, none⟩ (.int .i64 0)) := (Fr.refl (fun y => y = E.B) w1).set (Or.inl rfl) _ _
  refine ⟨rfl, va', ⟨(k4.mono (fun x hx => Or.inl (hx.elim (fun h => .inr (.inr (.inl h))) (fun h => .inr (.inr (.inr h)))))).trans f5 (fun x hx => Or.inl (.inl hx)), k3⟩, ⟨⟨a ++ (x :: b), [], cells, by rw [h1, List.append_nil], by simp, k5.set 2 _, k6.set_ne (Ne.symm n1) _, h5, by simp [bv], k1.set_ne (Ne.symm n2) _, ownsRow_frame k2 f5 (fun k hk e => (hnw' k hk).1 e)⟩, ⟨n1, n2, n3⟩, hnw'⟩, ?_⟩
  rw [(k5.set 2 _).cell]; rfl
end
section
open Go.RowKit
structure Wp (E : Wx) (w : World) (va : Value) (out : List UInt8) (n : Nat) : Prop where
 ex : ∃ a b cells, out = a ++ b /\ b.length = n /\ Blk w E.B (wrA E n) 196 /\ Blk w E.BB cells 5 /\ cells.size = 4096 /\ cells.toList.take n = bv b /\ Blk w E.W #[va] 58 /\ w.ownsRow 0 5 1 va a.length (bv a)
 le : n <= 4096
 ne : E.B ≠ E.BB /\ E.B ≠ E.W /\ E.BB ≠ E.W
 nv : ∀ k, va.ownBlock = some k -> k ≠ E.B /\ k ≠ E.BB /\ k ≠ E.W
theorem Wr.parts {E : Wx} {w : World} {va : Value} {out : List UInt8} (h : Wr E w va out) : ∃ n, Wp E w va out n := by
 obtain ⟨⟨a, b, cells, h1, h2, h3, h4, h5, h6, h7, h8⟩, hne, hnv⟩ := h
 exact ⟨b.length, ⟨a, b, cells, h1, rfl, h3, h4, h5, h6, h7, h8⟩, h2, hne, hnv⟩
theorem Wp.wr {E : Wx} {w : World} {va : Value} {out : List UInt8} {n : Nat} (h : Wp E w va out n) : Wr E w va out := by
 obtain ⟨⟨a, b, cells, h1, rfl, h3, h4, h5, h6, h7, h8⟩, hle, hne, hnv⟩ := h
 exact ⟨⟨a, b, cells, h1, hle, h3, h4, h5, h6, h7, h8⟩, hne, hnv⟩
theorem Wp.cells {E : Wx} {w : World} {va : Value} {out : List UInt8} {n : Nat} (h : Wp E w va out n) : w.cell? ⟨E.B, 0, none⟩ = some .nilIface /\ w.cell? ⟨E.B, 1, none⟩ = some (.slice (some ⟨E.BB, 0, none⟩) 4096 4096) /\ w.cell? ⟨E.B, 2, none⟩ = some (.int .i64 n) /\ w.cell? ⟨E.B, 3, none⟩ = some (.iface 55 (.pointer (some ⟨E.W, 0, none⟩))) /\ w.frozen? ⟨E.B, 2, none⟩ = false := by
 obtain ⟨a, b, cells, h1, rfl, h3, h4, h5, h6, h7, h8⟩ := h.ex
 exact ⟨by rw [h3.cell]; rfl, by rw [h3.cell]; rfl, by rw [h3.cell]; rfl, by rw [h3.cell]; rfl, h3.fz _⟩
theorem Wp.at0 {E : Wx} {w : World} {va : Value} {out : List UInt8} {n : Nat} (h : Wp E w va out n) (i : Nat) (hi : i < 4096) : (∃ x, w.cell? ⟨E.BB, i, none⟩ = some x) /\ w.frozen? ⟨E.BB, i, none⟩ = false := by
 obtain ⟨a, b, cells, h1, h2, h3, h4, h5, h6, h7, h8⟩ := h.ex
 exact ⟨⟨cells[i]'(by omega), by rw [h4.cell]; exact Array.getElem?_eq_getElem (by omega)⟩, h4.fz _⟩
theorem Wp.drewN {E : Wx} {w : World} {va : Value} {out : List UInt8} {n : Nat} (h : Wp E w va out n) (k : Nat) : Wp E (w.drewN k) va out n := by
 obtain ⟨⟨a, b, cells, h1, h2, h3, h4, h5, h6, h7, h8⟩, hle, hne, hnv⟩ := h
 exact ⟨⟨a, b, cells, h1, h2, h3, h4, h5, h6, h7, ownsRow_frame h8 ((Fr.refl (fun _ => False) w).drewN k) (fun _ _ h => h)⟩, hle, hne, hnv⟩
theorem Wp.put {E : Wx} {w w' : World} {va : Value} {out : List UInt8} {n : Nat} (h : Wp E w va out n) (l : List UInt8) (hl : n + l.length <= 4096)
  (hB : ∀ cs, Blk w E.B cs 196 -> Blk w' E.B (cs.setIfInBounds 2 (.int .i64 ((n + l.length : Nat) : Int))) 196)
  (hBB : ∀ cells : Array Value, Blk w E.BB cells 5 -> cells.size = 4096 -> ∃ cells' : Array Value, Blk w' E.BB cells' 5 /\ cells'.size = 4096 /\ cells'.toList.take (n + l.length) = cells.toList.take n ++ bv l)
  (f : Fr (fun x => x = E.B \/ x = E.BB) w w') : Wp E w' va (out ++ l) (n + l.length) /\ WSt E w va w' va := by
 obtain ⟨⟨a, b, cells, h1, h2, h3, h4, h5, h6, h7, h8⟩, hle, hne, hnv⟩ := h
 obtain ⟨cells', k1, k2, k3⟩ := hBB cells h4 h5
 refine ⟨⟨⟨a, b ++ l, cells', by rw [h1, List.append_assoc], by rw [List.length_append, h2], hB _ h3, k1, k2, by rw [k3, h6, bv_append], h7.keep f (fun h => h.elim (fun e => hne.2.1 e.symm) (fun e => hne.2.2 e.symm)), ownsRow_frame h8 f (fun k hk h => h.elim (hnv k hk).1 (hnv k hk).2.1)⟩, hl, hne, hnv⟩, f.mono (fun x hx => Or.inl (hx.elim (fun h => .inl h) (fun h => .inr (.inl h)))), Nw.refl _ _⟩
theorem flush_p (E : Wx) (va : Value) (out : List UInt8) (n : Nat) (w : World) (h : Wp E w va out n) (hl : out.length <= 1099511627776) :
  Calls Tryz.prog 63 #[.pointer (some ⟨E.B, 0, none⟩)] w fun e w' => e = .returned .nilIface /\ ∃ va', WSt E w va w' va' /\ Wp E w' va' out 0 := by
 refine (flush_do E va out w h.wr hl).mono ?_
 rintro e w' ⟨rfl, va', h1, h2, h3⟩
 obtain ⟨m, hm⟩ := h2.parts
 have := hm.cells.2.2.1
 rw [h3] at this
 have hm0 : m = 0 := by simp at this; omega
 subst hm0
 exact ⟨rfl, va', h1, hm⟩
theorem take_set {cells : Array Value} {n : Nat} (c : Value) (hn : n < cells.size) : (cells.setIfInBounds n c).toList.take (n + 1) = cells.toList.take n ++ [c] := by
 rw [Array.toList_setIfInBounds, List.take_set, List.take_succ_eq_append_getElem (by simpa using hn), List.set_append_right _ _ (by simp; omega)]
 congr 1
 have : n - (cells.toList.take n).length = 0 := by simp; omega
 rw [this]; rfl
theorem bwbyte (E : Wx) (va : Value) (out : List UInt8) (c : UInt8) (w : World) (h : Wr E w va out) (hl : out.length <= 1099511627776) :
  Calls Tryz.prog 109 #[.pointer (some ⟨E.B, 0, none⟩), .int .u8 c.toNat] w fun e w' => e = .returned .nilIface /\ ∃ va', WSt E w va w' va' /\ Wr E w' va' (out ++ [c]) := by
 obtain ⟨n, hp⟩ := h.parts
 obtain ⟨c0, c1, c2, c3, f2⟩ := hp.cells
 have hle := hp.le
 by_cases hn : n < 4096
 ·have hav := avail_do E.B n _ w hp.le c1 c2
  obtain ⟨⟨x, b0⟩, q0⟩ := hp.at0 n hn
  have hn1 : ¬ (((4096 - n : Nat) : Int) <= 0) := by omega
  have hn2 : (n : Int) < 4096 := by omega
  have hw : IntKind.i64.wrap ((n : Int) + 1) = ((n + 1 : Nat) : Int) := by rw [IntWalk.i64_in _ (by omega)]; omega
  have hBB := hp.ne.1
  have hBB' := Ne.symm hBB
  generalize hAV : 4096 - n = av at hav hn1
  replace hp := zz hp
  replace hAV := zz hAV
  clear h
  go_enter Tryz.func109, Tryz.ntmps109
  go_wp2_with (go_at_call 147; refine hav.mono ?_; rintro e w1 ⟨rfl, k, rfl⟩)
  refine wp_region_tail 10 [] [0, 1, 2, 3, 4, 5, 6, 7, 8, 9] (by kernel_rfl) (by kernel_rfl) (fun _ _ _ _ _ h => h) ?_
  simp only [List.filterMap_cons, List.filterMap_nil, List.getElem?_toArray, List.getElem?_cons_zero, List.getElem?_cons_succ, List.nil_append, List.cons_append, List.drop_succ_cons, List.drop_zero]
  repeat still_step
  refine wpStill_nil ?_
  go_wp2
  go_ret
  have f5 : Fr (fun y => y = E.B \/ y = E.BB) w (((w.drewN (k + 1)).setCell ⟨E.BB, n, none⟩ (.int .u8 c.toNat)).setCell ⟨E.B, 2, none⟩ (.int .i64 ((n + 1 : Nat) : Int))) := (((Fr.refl (fun y => y = E.B \/ y = E.BB) w).drewN (k + 1)).set (Or.inl (Or.inr rfl)) _ _).set (Or.inl (Or.inl rfl)) _ _
  have hq := hp.out.put (w' := ((w.drewN (k + 1)).setCell ⟨E.BB, n, none⟩ (.int .u8 c.toNat)).setCell ⟨E.B, 2, none⟩ (.int .i64 ((n + 1 : Nat) : Int))) [c] (by simp; omega) (fun cs hb => ?_) (fun cells hb hs => ?_) f5
  ·exact ⟨rfl, va, hq.2, hq.1.wr⟩
  ·exact Blk.set (Blk.set_ne (w := w.drewN (k + 1)) hb hBB _) 2 _
  ·refine ⟨cells.setIfInBounds n (.int .u8 c.toNat), ?_, by simpa using hs, ?_⟩
   ·exact Blk.set_ne (Blk.set (w := w.drewN (k + 1)) hb n _) hBB' _
   ·exact take_set _ (by omega)
 ·have hn4 : n = 4096 := by omega
  subst hn4
  have hav := avail_do E.B 4096 _ w hp.le c1 c2
  have hfl := fun k => (flush_p E va out 4096 (w.drewN k) (hp.drewN k) hl).mono (R' := fun e w' => e = .returned .nilIface /\ w'.cell? ⟨E.B, 0, none⟩ = some .nilIface /\ w'.cell? ⟨E.B, 1, none⟩ = some (.slice (some ⟨E.BB, 0, none⟩) 4096 4096) /\ w'.cell? ⟨E.B, 2, none⟩ = some (.int .i64 0) /\ w'.frozen? ⟨E.B, 2, none⟩ = false /\ (∃ x, w'.cell? ⟨E.BB, 0, none⟩ = some x) /\ w'.frozen? ⟨E.BB, 0, none⟩ = false /\ Hid (∃ va', WSt E w va w' va' /\ Wp E w' va' out 0)) (by
   rintro e w' ⟨rfl, va', k1, k2⟩
   obtain ⟨d0, d1, d2, d3, g2⟩ := k2.cells
   exact ⟨rfl, d0, d1, d2, g2, (k2.at0 0 (by omega)).1, (k2.at0 0 (by omega)).2, va', ((WSt.refl E w va).drewN k).trans k1, k2⟩)
  have hBB := hp.ne.1
  have hBB' := Ne.symm hBB
  replace hfl := zz hfl
  clear h hp c2 hn hle
  go_enter Tryz.func109, Tryz.ntmps109
  go_wp2_with (first | (go_at_call 147; refine hav.mono ?_; rintro e w1 ⟨rfl, k, rfl⟩) | (go_at_call 63; refine (hfl.out _).mono ?_; rintro e w2 ⟨rfl, d0, d1, d2, g2, ⟨x, b0⟩, q0, k2⟩))
  refine wp_region_tail 10 [] [0, 1, 2, 3, 4, 5, 6, 7, 8, 9] (by kernel_rfl) (by kernel_rfl) (fun _ _ _ _ _ h => h) ?_
  simp only [List.filterMap_cons, List.filterMap_nil, List.getElem?_toArray, List.getElem?_cons_zero, List.getElem?_cons_succ, List.nil_append, List.cons_append, List.drop_succ_cons, List.drop_zero]
  repeat still_step
  refine wpStill_nil ?_
  go_wp2
  go_ret
  obtain ⟨va', k3, k4⟩ := k2.out
  have f5 : Fr (fun y => y = E.B \/ y = E.BB) w2 ((w2.drew.setCell ⟨E.BB, 0, none⟩ (.int .u8 c.toNat)).setCell ⟨E.B, 2, none⟩ (.int .i64 1)) := (((Fr.refl (fun y => y = E.B \/ y = E.BB) w2).drew).set (Or.inl (Or.inr rfl)) _ _).set (Or.inl (Or.inl rfl)) _ _
  have hq := k4.put (w' := (w2.drew.setCell ⟨E.BB, 0, none⟩ (.int .u8 c.toNat)).setCell ⟨E.B, 2, none⟩ (.int .i64 1)) [c] (by simp) (fun cs hb => ?_) (fun cells hb hs => ?_) f5
  ·exact ⟨rfl, va', k3.trans hq.2, hq.1.wr⟩
  ·exact Blk.set (Blk.set_ne (w := w2.drew) hb hBB _) 2 _
  ·refine ⟨cells.setIfInBounds 0 (.int .u8 c.toNat), ?_, by simpa using hs, ?_⟩
   ·exact Blk.set_ne (Blk.set (w := w2.drew) hb 0 _) hBB' _
   ·exact take_set (n := 0) _ (by omega)
end
end Go.Proofs.YtepbbahdhhjibaaGreatDoor
