/- own text -/
import Derived.Test.YtepbbahdhhjibaaGreatDoorD18
namespace Go.Proofs.YtepbbahdhhjibaaGreatDoor
set_option linter.unusedSimpArgs false
set_option linter.unusedVariables false
set_option maxHeartbeats 4000000
set_option maxRecDepth 100000
section
open Go.RowKit
theorem ta_112_108' (x : Value) (w : World) : (Instr.typeAssert (.iface 112 x) 65 108 true).run Tryz.prog w = .ok (.tuple #[z108, .bool false]) w := by kernel_rfl
theorem ta_112_112' (x : Value) (w : World) : (Instr.typeAssert (.iface 112 x) 65 112 true).run Tryz.prog w = .ok (.tuple #[x, .bool true]) w := by kernel_rfl
theorem itok_end (E : Dx) (p : Pa) (v : Value) (bs strm : List UInt8) (nb0 eo : Bool) (s : ByteArray) (w : World) (h : Dec E w p v bs nb0 eo strm) :
  Calls Tryz.prog 39 #[.iface 112 (.agg #[.string ⟨#[]⟩, .string s]), .pointer (some ⟨E.D, 0, none⟩)] w fun e w' => ∃ o l c : Int, e = .returned (.agg #[.int .i64 2, .string ⟨#[]⟩, .string s, .slice none 0 0, .string ⟨#[]⟩, .int .i64 o, .int .i64 l, .int .i64 c]) /\ Old w w' := by
 have ta108 := ta_112_108'
 have ta112 := ta_112_112'
 have h1 := fun w' (ho : Old w w') => inOff_do (h.old ho)
 have h2 := fun w' (ho : Old w w') => inPos_do (h.old ho)
 replace h1 := zz h1
 replace h2 := zz h2
 clear h
 go_enter Tryz.func39, Tryz.ntmps39
 go_upto_region 3 with (first | (go_at_call 73; refine (h1.out _ ((Fr.refl _ w).alloc _)).mono ?_; rintro e w1 ⟨o, rfl, rfl⟩) | (go_at_call 74; refine (h2.out _ (((Fr.refl _ w).alloc _).alloc _)).mono ?_; rintro e w1 ⟨l, c, rfl, k, rfl⟩))
 obtain ⟨W, hW⟩ : ∃ W, W = (((((w.alloc (.cells #[.int .i64 0, .string ⟨#[]⟩, .string ⟨#[]⟩, .slice none 0 0, .string ⟨#[]⟩, .int .i64 0, .int .i64 0, .int .i64 0] 64)).alloc (.cells #[.int .i64 0, .string ⟨#[]⟩, .string ⟨#[]⟩, .slice none 0 0, .string ⟨#[]⟩, .int .i64 o, .int .i64 0, .int .i64 0] 64)).drewN k).setCell ⟨w.heap.size + 1, 6, none⟩ (.int .i64 l)).setCell ⟨w.heap.size + 1, 7, none⟩ (.int .i64 c)) := ⟨_, rfl⟩
 rw [<- hW]
 obtain ⟨hO, hB4, hB5, hsz⟩ := itok_world w W k o l c hW
 generalize hT4 : w.heap.size = T4 at *
 generalize hT5 : T4 + 1 = T5 at *
 have hne45 : T4 ≠ T5 := by omega
 have hne54 : T5 ≠ T4 := by omega
 have hT5W : T5 < W.heap.size := by omega
 clear hW h1 h2 hsz
 replace hT4 := zz hT4
 replace hT5 := zz hT5
 go_upto_region 14 with (fail)
 have hO2 : Old w (W.alloc (.cells #[.string ⟨#[]⟩, .string s] 112)) := hO.alloc _
 have hB52 := hB5.alloc (.cells #[.string ⟨#[]⟩, .string s] 112)
 have hB42 := hB4.alloc (.cells #[.string ⟨#[]⟩, .string s] 112)
 have hB9 := Blk.new W #[.string ⟨#[]⟩, .string s] 112
 obtain ⟨W2, hW2⟩ : ∃ W2, W2 = W.alloc (.cells #[.string ⟨#[]⟩, .string s] 112) := ⟨_, rfl⟩
 rw [<- hW2] at hO2 hB52 hB42 hB9 ⊢
 generalize hT9 : W.heap.size = T9 at *
 have hne59 : T5 ≠ T9 := by omega
 have hne95 : T9 ≠ T5 := by omega
 have hne49 : T4 ≠ T9 := by have := hT5.out; omega
 have hne94 : T9 ≠ T4 := Ne.symm hne49
 clear hW2 hO hB4 hB5
 have c0 := hB52.cell 0
 have c1 := hB52.cell 1
 have c2 := hB52.cell 2
 have c3 := hB52.cell 3
 have c4 := hB52.cell 4
 have c5 := hB52.cell 5
 have c6 := hB52.cell 6
 have c7 := hB52.cell 7
 simp at c0 c1 c2 c3 c4 c5 c6 c7
 have z0 := hB42.cell 0
 have z1 := hB42.cell 1
 have z2 := hB42.cell 2
 have z3 := hB42.cell 3
 have z4 := hB42.cell 4
 have z5 := hB42.cell 5
 have z6 := hB42.cell 6
 have z7 := hB42.cell 7
 simp [itZ] at z0 z1 z2 z3 z4 z5 z6 z7
 have f0 := hB52.fz 0
 have f1 := hB52.fz 1
 have f2 := hB52.fz 2
 have f3 := hB52.fz 3
 have f4 := hB52.fz 4
 have y0 := hB42.fz 0
 have y1 := hB42.fz 1
 have y2 := hB42.fz 2
 have y3 := hB42.fz 3
 have y4 := hB42.fz 4
 have y5 := hB42.fz 5
 have y6 := hB42.fz 6
 have y7 := hB42.fz 7
 have d0 := hB9.cell 0
 have d1 := hB9.cell 1
 simp at d0 d1
 replace hB52 := zz hB52
 replace hB42 := zz hB42
 replace hO2 := zz hO2
 clear hB9
 go_region
 go_wp2
 have hT5' : w.heap.size <= T5 := by have := hT4.out; have := hT5.out; omega
 have hE := blk8 (((W2.setCell ⟨T5, 0, none⟩ (.int .i64 2)).setCell ⟨T5, 1, none⟩ (.string ⟨#[]⟩)).setCell ⟨T5, 2, none⟩ (.string s)) T4 (((hB42.out.set_ne (p := ⟨T5, 0, none⟩) hne45 _).set_ne (p := ⟨T5, 1, none⟩) hne45 _).set_ne (p := ⟨T5, 2, none⟩) hne45 _) (.int .i64 2) (.string ⟨#[]⟩) (.string s) (.slice none 0 0) (.string ⟨#[]⟩) (.int .i64 o) (.int .i64 l) (.int .i64 c)
 have hO8 := old8 (w := w) (((W2.setCell ⟨T5, 0, none⟩ (.int .i64 2)).setCell ⟨T5, 1, none⟩ (.string ⟨#[]⟩)).setCell ⟨T5, 2, none⟩ (.string s)) T4 (by have := hT4.out; omega) ((((hO2.out.set (Or.inr hT5') _ _).set (Or.inr hT5') _ _).set (Or.inr hT5') _ _)) (.int .i64 2) (.string ⟨#[]⟩) (.string s) (.slice none 0 0) (.string ⟨#[]⟩) (.int .i64 o) (.int .i64 l) (.int .i64 c)
 refine bodyPost_ret (results_cell_row rfl _ _ T4 64 _ (0, 0) _ rfl hE Tryz.underlying64 rfl (by kernel_rfl)) rfl ?_
 exact ⟨o, l, c, rfl, hO8⟩
end
section
open Go.RowKit
theorem ta_116_108' (x : Value) (w : World) : (Instr.typeAssert (.iface 116 x) 65 108 true).run Tryz.prog w = .ok (.tuple #[z108, .bool false]) w := by kernel_rfl
theorem ta_116_112' (x : Value) (w : World) : (Instr.typeAssert (.iface 116 x) 65 112 true).run Tryz.prog w = .ok (.tuple #[z112, .bool false]) w := by kernel_rfl
theorem ta_116_113' (x : Value) (w : World) : (Instr.typeAssert (.iface 116 x) 65 113 true).run Tryz.prog w = .ok (.tuple #[.slice none 0 0, .bool false]) w := by kernel_rfl
theorem ta_116_114' (x : Value) (w : World) : (Instr.typeAssert (.iface 116 x) 65 114 true).run Tryz.prog w = .ok (.tuple #[.slice none 0 0, .bool false]) w := by kernel_rfl
theorem ta_116_116' (x : Value) (w : World) : (Instr.typeAssert (.iface 116 x) 65 116 true).run Tryz.prog w = .ok (.tuple #[x, .bool true]) w := by kernel_rfl
theorem itok_pi (E : Dx) (p : Pa) (v : Value) (bs strm : List UInt8) (nb0 eo : Bool) (s : ByteArray) (g cap n : Nat) (d : List UInt8) (w : World) (hn : n = d.length) (hl : Lies w g 0 d) (h : Dec E w p v bs nb0 eo strm) :
  Calls Tryz.prog 39 #[.iface 116 (.agg #[.string s, .slice (some ⟨g, 0, none⟩) n cap]), .pointer (some ⟨E.D, 0, none⟩)] w fun e w' => ∃ o l c : Int, e = .returned (.agg #[.int .i64 5, .string ⟨#[]⟩, .string s, .slice none 0 0, .string ⟨d.toArray⟩, .int .i64 o, .int .i64 l, .int .i64 c]) /\ Old w w' := by
 have ta108 := ta_116_108'
 have ta112 := ta_116_112'
 have ta113 := ta_116_113'
 have ta114 := ta_116_114'
 have ta116 := ta_116_116'
 have hcv : ∀ w', Old w w' -> (convert 56 9 (.slice (some ⟨g, 0, none⟩) n cap)).run Tryz.prog w' = .ok (.string ⟨d.toArray⟩) w' := fun w' ho => Lies.str (hl.old ho) hn
 replace hcv := zz hcv
 have h1 := fun w' (ho : Old w w') => inOff_do (h.old ho)
 have h2 := fun w' (ho : Old w w') => inPos_do (h.old ho)
 replace h1 := zz h1
 replace h2 := zz h2
 clear h hl hn
 go_enter Tryz.func39, Tryz.ntmps39
 go_upto_region 3 with (first | (go_at_call 73; refine (h1.out _ ((Fr.refl _ w).alloc _)).mono ?_; rintro e w1 ⟨o, rfl, rfl⟩) | (go_at_call 74; refine (h2.out _ (((Fr.refl _ w).alloc _).alloc _)).mono ?_; rintro e w1 ⟨l, c, rfl, k, rfl⟩))
 obtain ⟨W, hW⟩ : ∃ W, W = (((((w.alloc (.cells #[.int .i64 0, .string ⟨#[]⟩, .string ⟨#[]⟩, .slice none 0 0, .string ⟨#[]⟩, .int .i64 0, .int .i64 0, .int .i64 0] 64)).alloc (.cells #[.int .i64 0, .string ⟨#[]⟩, .string ⟨#[]⟩, .slice none 0 0, .string ⟨#[]⟩, .int .i64 o, .int .i64 0, .int .i64 0] 64)).drewN k).setCell ⟨w.heap.size + 1, 6, none⟩ (.int .i64 l)).setCell ⟨w.heap.size + 1, 7, none⟩ (.int .i64 c)) := ⟨_, rfl⟩
 rw [<- hW]
 obtain ⟨hO, hB4, hB5, hsz⟩ := itok_world w W k o l c hW
 generalize hT4 : w.heap.size = T4 at *
 generalize hT5 : T4 + 1 = T5 at *
 have hne45 : T4 ≠ T5 := by omega
 have hne54 : T5 ≠ T4 := by omega
 have hT5W : T5 < W.heap.size := by omega
 clear hW h1 h2 hsz
 replace hT4 := zz hT4
 replace hT5 := zz hT5
 go_upto_region 23 with (fail)
 have hO2 : Old w (W.alloc (.cells #[.string s, .slice (some ⟨g, 0, none⟩) n cap] 116)) := hO.alloc _
 have hB52 := hB5.alloc (.cells #[.string s, .slice (some ⟨g, 0, none⟩) n cap] 116)
 have hB42 := hB4.alloc (.cells #[.string s, .slice (some ⟨g, 0, none⟩) n cap] 116)
 have hB9 := Blk.new W #[.string s, .slice (some ⟨g, 0, none⟩) n cap] 116
 obtain ⟨W2, hW2⟩ : ∃ W2, W2 = W.alloc (.cells #[.string s, .slice (some ⟨g, 0, none⟩) n cap] 116) := ⟨_, rfl⟩
 rw [<- hW2] at hO2 hB52 hB42 hB9 ⊢
 generalize hT9 : W.heap.size = T9 at *
 have hne59 : T5 ≠ T9 := by omega
 have hne95 : T9 ≠ T5 := by omega
 have hne49 : T4 ≠ T9 := by have := hT5.out; omega
 have hne94 : T9 ≠ T4 := Ne.symm hne49
 clear hW2 hO hB4 hB5
 have c0 := hB52.cell 0
 have c1 := hB52.cell 1
 have c2 := hB52.cell 2
 have c3 := hB52.cell 3
 have c4 := hB52.cell 4
 have c5 := hB52.cell 5
 have c6 := hB52.cell 6
 have c7 := hB52.cell 7
 simp at c0 c1 c2 c3 c4 c5 c6 c7
 have z0 := hB42.cell 0
 have z1 := hB42.cell 1
 have z2 := hB42.cell 2
 have z3 := hB42.cell 3
 have z4 := hB42.cell 4
 have z5 := hB42.cell 5
 have z6 := hB42.cell 6
 have z7 := hB42.cell 7
 simp [itZ] at z0 z1 z2 z3 z4 z5 z6 z7
 have f0 := hB52.fz 0
 have f1 := hB52.fz 1
 have f2 := hB52.fz 2
 have f3 := hB52.fz 3
 have f4 := hB52.fz 4
 have y0 := hB42.fz 0
 have y1 := hB42.fz 1
 have y2 := hB42.fz 2
 have y3 := hB42.fz 3
 have y4 := hB42.fz 4
 have y5 := hB42.fz 5
 have y6 := hB42.fz 6
 have y7 := hB42.fz 7
 have d0 := hB9.cell 0
 have d1 := hB9.cell 1
 simp at d0 d1
 have hT5' : w.heap.size <= T5 := by have := hT4.out; have := hT5.out; omega
 have hcA := hcv.out W2.drew hO2.drew
 have hcB := hcv.out ((W2.setCell ⟨T5, 0, none⟩ (.int .i64 5)).drew) (hO2.set (Or.inr hT5') _ _).drew
 have hcC := hcv.out ((W2.setCell ⟨T5, 2, none⟩ (.string s)).drew) (hO2.set (Or.inr hT5') _ _).drew
 have hcD := hcv.out (((W2.setCell ⟨T5, 0, none⟩ (.int .i64 5)).setCell ⟨T5, 2, none⟩ (.string s)).drew) ((hO2.set (Or.inr hT5') _ _).set (Or.inr hT5') _ _).drew
 replace hB52 := zz hB52
 replace hB42 := zz hB42
 replace hO2 := zz hO2
 clear hB9 hcv
 go_region
 go_wp2
 have hE := blk8 (((W2.setCell ⟨T5, 0, none⟩ (.int .i64 5)).setCell ⟨T5, 2, none⟩ (.string s)).setCell ⟨T5, 4, none⟩ (.string ⟨d.toArray⟩)) T4 (((hB42.out.set_ne (p := ⟨T5, 0, none⟩) hne45 _).set_ne (p := ⟨T5, 2, none⟩) hne45 _).set_ne (p := ⟨T5, 4, none⟩) hne45 _) (.int .i64 5) (.string ⟨#[]⟩) (.string s) (.slice none 0 0) (.string ⟨d.toArray⟩) (.int .i64 o) (.int .i64 l) (.int .i64 c)
 have hO8 := old8 (w := w) (((W2.setCell ⟨T5, 0, none⟩ (.int .i64 5)).setCell ⟨T5, 2, none⟩ (.string s)).setCell ⟨T5, 4, none⟩ (.string ⟨d.toArray⟩)) T4 (by have := hT4.out; omega) ((((hO2.out.set (Or.inr hT5') _ _).set (Or.inr hT5') _ _).set (Or.inr hT5') _ _)) (.int .i64 5) (.string ⟨#[]⟩) (.string s) (.slice none 0 0) (.string ⟨d.toArray⟩) (.int .i64 o) (.int .i64 l) (.int .i64 c)
 refine bodyPost_ret (results_cell_row rfl _ _ T4 64 _ (0, 0) _ rfl hE Tryz.underlying64 rfl (by kernel_rfl)) rfl ?_
 exact ⟨o, l, c, rfl, hO8⟩
end
section
open Go.RowKit
theorem ta_108_108' (x : Value) (w : World) : (Instr.typeAssert (.iface 108 x) 65 108 true).run Tryz.prog w = .ok (.tuple #[x, .bool true]) w := by kernel_rfl
theorem blk8n (W : World) (T4 : Nat) (h : Blk W T4 itZ 64) (a0 a1 a2 a3 a4 a5 a6 a7 : Value) : Blk ((((((((W.setCell ⟨T4, 0, none⟩ a0).setCell ⟨T4, 1, none⟩ a1).setCell ⟨T4, 2, none⟩ a2).setCell ⟨T4, 3, none⟩ a3).setCell ⟨T4, 4, none⟩ a4).setCell ⟨T4, 5, none⟩ a5).setCell ⟨T4, 6, none⟩ a6).setCell ⟨T4, 7, none⟩ a7) T4 #[a0, a1, a2, a3, a4, a5, a6, a7] 64 := by
 have h8 := ((((((((h.set 0 a0).set 1 a1).set 2 a2).set 3 a3).set 4 a4).set 5 a5).set 6 a6).set 7 a7)
 simp only [itZ, List.setIfInBounds_toArray, List.set_cons_zero, List.set_cons_succ] at h8
 exact h8
theorem old8n {w : World} (W : World) (T4 : Nat) (hT : w.heap.size <= T4) (h : Old w W) (a0 a1 a2 a3 a4 a5 a6 a7 : Value) : Old w ((((((((W.setCell ⟨T4, 0, none⟩ a0).setCell ⟨T4, 1, none⟩ a1).setCell ⟨T4, 2, none⟩ a2).setCell ⟨T4, 3, none⟩ a3).setCell ⟨T4, 4, none⟩ a4).setCell ⟨T4, 5, none⟩ a5).setCell ⟨T4, 6, none⟩ a6).setCell ⟨T4, 7, none⟩ a7) := ((((((((h.set (Or.inr hT) _ _).set (Or.inr hT) _ _).set (Or.inr hT) _ _).set (Or.inr hT) _ _).set (Or.inr hT) _ _).set (Or.inr hT) _ _).set (Or.inr hT) _ _).set (Or.inr hT) _ _)
theorem fr8n (W : World) (T4 : Nat) (a0 a1 a2 a3 a4 a5 a6 a7 : Value) : Fr (fun x => x = T4) W ((((((((W.setCell ⟨T4, 0, none⟩ a0).setCell ⟨T4, 1, none⟩ a1).setCell ⟨T4, 2, none⟩ a2).setCell ⟨T4, 3, none⟩ a3).setCell ⟨T4, 4, none⟩ a4).setCell ⟨T4, 5, none⟩ a5).setCell ⟨T4, 6, none⟩ a6).setCell ⟨T4, 7, none⟩ a7) := (((((((((Fr.refl (fun x => x = T4) W).set (Or.inl rfl) _ _).set (Or.inl rfl) _ _).set (Or.inl rfl) _ _).set (Or.inl rfl) _ _).set (Or.inl rfl) _ _).set (Or.inl rfl) _ _).set (Or.inl rfl) _ _).set (Or.inl rfl) _ _)
theorem info73 : (Tryz.prog.info? 73).map (fun i => (i.zero, i.size, i.bytes)) = some (some (.agg #[.string ⟨#[]⟩, .string ⟨#[]⟩, .string ⟨#[]⟩]), 3, 48) := by kernel_rfl
theorem itok_start (E : Dx) (p : Pa) (v : Value) (bs strm : List UInt8) (nb0 eo : Bool) (s : ByteArray) (pa : Option Addr) (n ca : Nat) (ats : List At) (w : World) (hna : n = ats.length) (hn : ats.length <= 549755813888) (hrow : w.ownsRow 0 110 3 (.slice pa n ca) ats.length (ats.flatMap At.cells)) (h : Dec E w p v bs nb0 eo strm) :
  Calls Tryz.prog 39 #[.iface 108 (.agg #[.string ⟨#[]⟩, .string s, .slice pa n ca]), .pointer (some ⟨E.D, 0, none⟩)] w fun e w' => ∃ (o l c : Int) (av : Value), e = .returned (.agg #[.int .i64 1, .string ⟨#[]⟩, .string s, av, .string ⟨#[]⟩, .int .i64 o, .int .i64 l, .int .i64 c]) /\ Old w w' /\
   w'.ownsRow 0 73 3 av ats.length (ats.flatMap At.cells) /\ ∀ k, av.ownBlock = some k -> w.heap.size <= k := by
 subst hna
 have ta108 := ta_108_108'
 obtain ⟨i0, hi0, hz0, hz1, hz2⟩ := info_parts info73
 have hrowc : ∀ w', Old w w' -> ∀ i (h : i < ats.length), ∃ g, pa = some ⟨g, 0, none⟩ /\ w'.cell? ⟨g, i * 3, none⟩ = some (.string ⟨#[]⟩) /\ w'.cell? ⟨g, i * 3 + 1, none⟩ = some (.string ⟨(nb ats[i].nm).toArray⟩) /\ w'.cell? ⟨g, i * 3 + 2, none⟩ = some (.string ⟨(nb ats[i].rs).toArray⟩) := by
  intro w' ho i hi
  rcases hrow.2 with ⟨_, h0⟩ | ⟨g, cap, cur, hv, _⟩
  ·omega
  ·have hpa : pa = some ⟨g, 0, none⟩ := by injection hv
   have hc := fun j u hj => ho.cell (show w.cell? ⟨g, j, none⟩ = some u from by
    have := hrow.cells (g := g) (by rw [hpa]; rfl) j u hj
    rw [Lib.addr_add, Nat.zero_add] at this
    exact this)
   obtain ⟨h1, h2, h3⟩ := ats_cells ats i hi
   exact ⟨g, hpa, hc _ _ h1, hc _ _ h2, hc _ _ h3⟩
 replace hrowc := zz hrowc
 have h1 := fun w' (ho : Old w w') => inOff_do (h.old ho)
 have h2 := fun w' (ho : Old w w') => inPos_do (h.old ho)
 replace h1 := zz h1
 replace h2 := zz h2
 clear h hrow
 go_enter Tryz.func39, Tryz.ntmps39
 go_upto_region 3 with (first | (go_at_call 73; refine (h1.out _ ((Fr.refl _ w).alloc _)).mono ?_; rintro e w1 ⟨o, rfl, rfl⟩) | (go_at_call 74; refine (h2.out _ (((Fr.refl _ w).alloc _).alloc _)).mono ?_; rintro e w1 ⟨l, c, rfl, k, rfl⟩))
 obtain ⟨W, hW⟩ : ∃ W, W = (((((w.alloc (.cells #[.int .i64 0, .string ⟨#[]⟩, .string ⟨#[]⟩, .slice none 0 0, .string ⟨#[]⟩, .int .i64 0, .int .i64 0, .int .i64 0] 64)).alloc (.cells #[.int .i64 0, .string ⟨#[]⟩, .string ⟨#[]⟩, .slice none 0 0, .string ⟨#[]⟩, .int .i64 o, .int .i64 0, .int .i64 0] 64)).drewN k).setCell ⟨w.heap.size + 1, 6, none⟩ (.int .i64 l)).setCell ⟨w.heap.size + 1, 7, none⟩ (.int .i64 c)) := ⟨_, rfl⟩
 rw [<- hW]
 obtain ⟨hO, hB4, hB5, hsz⟩ := itok_world w W k o l c hW
 generalize hT4 : w.heap.size = T4 at *
 generalize hT5 : T4 + 1 = T5 at *
 have hne45 : T4 ≠ T5 := by omega
 have hne54 : T5 ≠ T4 := by omega
 have hT5W : T5 < W.heap.size := by omega
 clear hW h1 h2 hsz
 replace hT4 := zz hT4
 replace hT5 := zz hT5
 go_upto_region 6 with (fail)
 have hO2 : Old w (W.alloc (.cells #[.string ⟨#[]⟩, .string s, .slice pa ats.length ca] 108)) := hO.alloc _
 have hB52 := hB5.alloc (.cells #[.string ⟨#[]⟩, .string s, .slice pa ats.length ca] 108)
 have hB42 := hB4.alloc (.cells #[.string ⟨#[]⟩, .string s, .slice pa ats.length ca] 108)
 have hB9 := Blk.new W #[.string ⟨#[]⟩, .string s, .slice pa ats.length ca] 108
 obtain ⟨W2, hW2⟩ : ∃ W2, W2 = W.alloc (.cells #[.string ⟨#[]⟩, .string s, .slice pa ats.length ca] 108) := ⟨_, rfl⟩
 rw [<- hW2] at hO2 hB52 hB42 hB9 ⊢
 generalize hT9 : W.heap.size = T9 at *
 have hne59 : T5 ≠ T9 := by omega
 have hne95 : T9 ≠ T5 := by omega
 have hne49 : T4 ≠ T9 := by have := hT5.out; omega
 have hne94 : T9 ≠ T4 := Ne.symm hne49
 clear hW2 hO hB4 hB5
 have c0 := hB52.cell 0
 have c1 := hB52.cell 1
 have c2 := hB52.cell 2
 have c3 := hB52.cell 3
 have c4 := hB52.cell 4
 have c5 := hB52.cell 5
 have c6 := hB52.cell 6
 have c7 := hB52.cell 7
 simp at c0 c1 c2 c3 c4 c5 c6 c7
 have z0 := hB42.cell 0
 have z1 := hB42.cell 1
 have z2 := hB42.cell 2
 have z3 := hB42.cell 3
 have z4 := hB42.cell 4
 have z5 := hB42.cell 5
 have z6 := hB42.cell 6
 have z7 := hB42.cell 7
 simp [itZ] at z0 z1 z2 z3 z4 z5 z6 z7
 have f0 := hB52.fz 0
 have f1 := hB52.fz 1
 have f2 := hB52.fz 2
 have f3 := hB52.fz 3
 have f4 := hB52.fz 4
 have y0 := hB42.fz 0
 have y1 := hB42.fz 1
 have y2 := hB42.fz 2
 have y3 := hB42.fz 3
 have y4 := hB42.fz 4
 have y5 := hB42.fz 5
 have y6 := hB42.fz 6
 have y7 := hB42.fz 7
 have d0 := hB9.cell 0
 have d1 := hB9.cell 1
 have d2 := hB9.cell 2
 simp at d0 d1 d2
 have hT5' : w.heap.size <= T5 := by have := hT4.out; have := hT5.out; omega
 have hT9' : T9 < W2.heap.size := hB9.lt
 go_region
 obtain ⟨W3, hW3⟩ : ∃ W3, W3 = (((W2.setCell ⟨T5, 0, none⟩ (.int .i64 1)).setCell ⟨T5, 1, none⟩ (.string ⟨#[]⟩)).setCell ⟨T5, 2, none⟩ (.string s)).drew := ⟨_, rfl⟩
 rw [<- hW3]
 have hO3 : Old w W3 := by rw [hW3]; exact (((hO2.set (Or.inr hT5') _ _).set (Or.inr hT5') _ _).set (Or.inr hT5') _ _).drew
 have hB53 : Blk W3 T5 #[.int .i64 1, .string ⟨#[]⟩, .string s, .slice none 0 0, .string ⟨#[]⟩, .int .i64 o, .int .i64 l, .int .i64 c] 64 := by
  rw [hW3]
  have h8 := ((hB52.set 0 (.int .i64 1)).set 1 (.string ⟨#[]⟩)).set 2 (.string s)
  simp only [List.setIfInBounds_toArray, List.set_cons_zero, List.set_cons_succ] at h8
  exact h8.drew
 have hB43 : Blk W3 T4 itZ 64 := by rw [hW3]; exact (((hB42.set_ne (p := ⟨T5, 0, none⟩) hne45 _).set_ne (p := ⟨T5, 1, none⟩) hne45 _).set_ne (p := ⟨T5, 2, none⟩) hne45 _).drew
 have hB93 : Blk W3 T9 #[.string ⟨#[]⟩, .string s, .slice pa ats.length ca] 108 := by rw [hW3]; exact (((hB9.set_ne (p := ⟨T5, 0, none⟩) hne95 _).set_ne (p := ⟨T5, 1, none⟩) hne95 _).set_ne (p := ⟨T5, 2, none⟩) hne95 _).drew
 have hT59 : w.heap.size <= T9 := by have := hT4.out; have := hT5.out; omega
 clear hW3 hO2 hB52 hB42 hB9 hT9'
 clear c0 c1 c2 c3 c4 c5 c6 c7 z0 z1 z2 z3 z4 z5 z6 z7 f0 f1 f2 f3 f4 y0 y1 y2 y3 y4 y5 y6 y7 d0 d1 d2
 have d2 : W3.cell? ⟨T9, 2, none⟩ = some (.slice pa ats.length ca) := by rw [hB93.cell]; rfl
 replace hO3 := zz hO3
 replace hB53 := zz hB53
 replace hB43 := zz hB43
 replace hB93 := zz hB93
 go_wp2
 go_loopg [40] ats.length (fun k s40 wr => ∃ (i : Nat) (av : Value), s40 = .int .i64 i /\ i + k = ats.length /\ Old w wr /\ Blk wr T5 #[.int .i64 1, .string ⟨#[]⟩, .string s, av, .string ⟨#[]⟩, .int .i64 o, .int .i64 l, .int .i64 c] 64 /\ Blk wr T4 itZ 64 /\ wr.ownsRow 0 73 3 av i ((ats.take i).flatMap At.cells) /\ ∀ k, av.ownBlock = some k -> w.heap.size <= k /\ k ≠ T4 /\ k ≠ T5)
 case atStart => exact ⟨0, .slice none 0 0, rfl, by omega, hO3.out, hB53.out, hB43.out, World.ownsRow_nil _ _ _ _, fun k hk => by simp [Value.ownBlock] at hk⟩
 case round =>
  obtain ⟨i, av, rfl, hik, hOr, hB5r, hB4r, hrowr, hkr⟩ := hrel
  by_cases hi : i < ats.length
  ·obtain ⟨g, rfl, q0, q1, q2⟩ := hrowc.out wr hOr i hi
   have hI : IntKind.i64.wrap ((i : Int) + 1) = ((i + 1 : Nat) : Int) := by rw [IntWalk.i64_in _ (by omega)]; omega
   have hi2 : (i : Int) < (ats.length : Int) := by omega
   have c3 := hB5r.cell 3
   simp at c3
   have f3 := hB5r.fz 3
   have T4l : T4 < wr.heap.size := hB4r.lt
   have T5l : T5 < wr.heap.size := hB5r.lt
   have hT5n : T5 ≠ wr.heap.size := by omega
   have hOr' := zz hOr
   have hB5r' := zz hB5r
   have hB4r' := zz hB4r
   have hrowr' := zz hrowr
   have hkr' := zz hkr
   have hi' := zz hi
   clear hOr hB5r hB4r hrowr hkr
   generalize hnmi : (nb ats[i].nm) = nmi at *
   generalize hrsi : (nb ats[i].rs) = rsi at *
   replace hnmi := zz hnmi
   replace hrsi := zz hrsi
   go_wp2_with (at_builtin; refine wpList_append rfl _ _ 62 rfl 73 i0 _ 3 48 Tryz.underlying62 hi0 hz0 hz1 hz2 rfl (by decide) av i _ rfl (ownsRow_frame (F := fun _ => False) hrowr'.out (((Fr.refl _ wr).alloc (.cells #[.string ⟨#[]⟩, .string ⟨nmi.toArray⟩, .string ⟨rsi.toArray⟩] 110)).alloc _) (fun _ _ h => h)) _ 1 1 [.string ⟨#[]⟩, .string ⟨nmi.toArray⟩, .string ⟨rsi.toArray⟩] rfl rfl (by decide) (by
     have := news_alloc (wr.alloc (.cells #[.string ⟨#[]⟩, .string ⟨nmi.toArray⟩, .string ⟨rsi.toArray⟩] 110)) [.string ⟨#[]⟩, .string ⟨nmi.toArray⟩, .string ⟨rsi.toArray⟩] 73
     rw [show (wr.alloc (.cells #[.string ⟨#[]⟩, .string ⟨nmi.toArray⟩, .string ⟨rsi.toArray⟩] 110)).heap.size = wr.heap.size + 1 by simp] at this
     exact this) (by intro u hu; simp at hu; rcases hu with rfl | rfl | rfl <;> rfl) (by unfold maxLen; omega) (by omega) ?_; intro g' c' w10 hrow' hgrow hnb; have f10 : Fr (fun x => av.ownBlock = some x) wr w10 := (((Fr.refl (fun x => av.ownBlock = some x) wr).alloc _).alloc _).grown hgrow (fun k hk => Or.inl hk); have b10 := hB5r'.out.keep f10 (fun h => (hkr'.out _ h).2.2 rfl); have b14 := hB4r'.out.keep f10 (fun h => (hkr'.out _ h).2.1 rfl); have k3 : w10.cell? ⟨T5, 3, none⟩ = some av := (by rw [b10.cell]; rfl); have q3 := b10.fz 3; replace hrow' := zz hrow'; replace hnb := zz hnb; replace f10 := zz f10; replace b10 := zz b10; replace b14 := zz b14; clear hgrow)
   go_roundg (gk - 1)
   case measure => omega
   case rel =>
    have hw0 : w.heap.size <= wr.heap.size := hOr'.out.size
    have hO10 : Old w w10 := hOr'.out.trans f10.out (fun x hx => Or.inr (hkr'.out x hx).1)
    have hg' : w.heap.size <= g' /\ g' ≠ T4 /\ g' ≠ T5 := by
     rcases hnb.out with h | h
     ·exact hkr'.out _ h
     ·have e : ((wr.alloc (.cells #[.string ⟨#[]⟩, .string ⟨nmi.toArray⟩, .string ⟨rsi.toArray⟩] 110)).alloc (.cells #[.string ⟨#[]⟩, .string ⟨nmi.toArray⟩, .string ⟨rsi.toArray⟩] 73)).heap.size = wr.heap.size + 2 := by simp
      have h' : wr.heap.size + 2 <= g' := by rw [<- e]; exact h
      omega
    have hb5' := b10.out.set 3 (.slice (some ⟨g', 0, none⟩) (i + 1) c')
    simp only [List.setIfInBounds_toArray, List.set_cons_zero, List.set_cons_succ] at hb5'
    refine ⟨i + 1, _, rfl, by omega, hO10.set (Or.inr hT5') _ _, hb5', b14.out.set_ne hne45 _, ?_, ?_⟩
    ·have e1 : (ats.take (i + 1)).flatMap At.cells = (ats.take i).flatMap At.cells ++ [.string ⟨#[]⟩, .string ⟨nmi.toArray⟩, .string ⟨rsi.toArray⟩] := by
      rw [List.take_succ_eq_append_getElem hi'.out, List.flatMap_append, <- hnmi.out, <- hrsi.out]
      simp [At.cells]
      exact ⟨rfl, rfl⟩
     rw [e1]
     exact ownsRow_setCell hrow'.out (by simp [Value.ownBlock]; omega) _
    ·intro k hk
     have : k = g' := by simpa [Value.ownBlock, eq_comm] using hk
     subst this
     exact hg'
  ·have hi2 : ¬ ((i : Int) < (ats.length : Int)) := by omega
   have hie : i = ats.length := by omega
   subst hie
   rw [List.take_length] at hrowr
   have c0 := hB5r.cell 0
   have c1 := hB5r.cell 1
   have c2 := hB5r.cell 2
   have c3 := hB5r.cell 3
   have c4 := hB5r.cell 4
   have c5 := hB5r.cell 5
   have c6 := hB5r.cell 6
   have c7 := hB5r.cell 7
   simp at c0 c1 c2 c3 c4 c5 c6 c7
   have z0 := hB4r.cell 0
   have z1 := hB4r.cell 1
   have z2 := hB4r.cell 2
   have z3 := hB4r.cell 3
   have z4 := hB4r.cell 4
   have z5 := hB4r.cell 5
   have z6 := hB4r.cell 6
   have z7 := hB4r.cell 7
   simp [itZ] at z0 z1 z2 z3 z4 z5 z6 z7
   have y0 := hB4r.fz 0
   have y1 := hB4r.fz 1
   have y2 := hB4r.fz 2
   have y3 := hB4r.fz 3
   have y4 := hB4r.fz 4
   have y5 := hB4r.fz 5
   have y6 := hB4r.fz 6
   have y7 := hB4r.fz 7
   obtain ⟨pv, nv, cv, rfl⟩ : ∃ pv nv cv, av = .slice pv nv cv := by
    rcases hrowr.2 with ⟨h1, _⟩ | ⟨g, cap, cur, h1, _⟩
    ·exact ⟨_, _, _, h1⟩
    ·exact ⟨_, _, _, h1⟩
   replace hOr := zz hOr
   replace hB5r := zz hB5r
   replace hB4r := zz hB4r
   replace hrowr := zz hrowr
   replace hkr := zz hkr
   go_wp2
   have hE := blk8n wr T4 hB4r.out (.int .i64 1) (.string ⟨#[]⟩) (.string s) (.slice pv nv cv) (.string ⟨#[]⟩) (.int .i64 o) (.int .i64 l) (.int .i64 c)
   have hO8 := old8n (w := w) wr T4 (by have := hT4.out; omega) hOr.out (.int .i64 1) (.string ⟨#[]⟩) (.string s) (.slice pv nv cv) (.string ⟨#[]⟩) (.int .i64 o) (.int .i64 l) (.int .i64 c)
   have hF8 := fr8n wr T4 (.int .i64 1) (.string ⟨#[]⟩) (.string s) (.slice pv nv cv) (.string ⟨#[]⟩) (.int .i64 o) (.int .i64 l) (.int .i64 c)
   refine bodyPost_ret (results_cell_row rfl _ _ T4 64 _ (0, 0) _ rfl hE Tryz.underlying64 rfl (by kernel_rfl)) rfl ?_
   exact ⟨o, l, c, _, rfl, hO8, ownsRow_frame hrowr.out hF8 (fun k hk => (hkr.out k hk).2.1), fun k hk => (hkr.out k hk).1⟩
end
section
open Go.RowKit
def kvCells (kv : List (List Nat × List Nat)) : List Value := kv.flatMap fun x => [.string ⟨#[]⟩, .string (nameB x.1), .string (nameB x.2)]
theorem kvCells_at (ats : List At) : kvCells (ats.map At.kv) = ats.flatMap At.cells := by
 induction ats with
 | nil => rfl
 | cons a ats ih =>
  simp only [kvCells, List.map_cons, List.flatMap_cons] at ih ⊢
  rw [ih]; rfl
def Tk.kind : Tk -> Int
 | .st _ _ => 1
 | .en _ => 2
 | .tx _ => 3
 | .cm _ => 4
 | .pi _ _ => 5
def Tk.loc : Tk -> ByteArray
 | .st nm _ => nameB nm
 | .en nm => nameB nm
 | .pi nm _ => nameB nm
 | _ => ⟨#[]⟩
def Tk.text : Tk -> ByteArray
 | .tx rs => nameB rs
 | .cm d => ⟨d.toArray⟩
 | .pi _ d => ⟨d.toArray⟩
 | _ => ⟨#[]⟩
def Tk.kv : Tk -> List (List Nat × List Nat)
 | .st _ kv => kv
 | _ => []
def AttrV (w : World) (A : Nat -> Prop) (tk : Tk) (av : Value) : Prop :=
 match tk with
 | .st _ kv => w.ownsRow 0 73 3 av kv.length (kvCells kv) /\ (∀ k, av.ownBlock = some k -> A k) /\ kv.length <= 549755813888
 | _ => av = .slice none 0 0
def tokCells (tk : Tk) (av : Value) (o l c : Int) : List Value := [.int .i64 tk.kind, .string ⟨#[]⟩, .string tk.loc, av, .string tk.text, .int .i64 o, .int .i64 l, .int .i64 c]
def TokL (w : World) (A : Nat -> Prop) : List Tk -> List Value -> Prop
 | [], cs => cs = []
 | tk :: tks, cs => ∃ av o l c rest, cs = tokCells tk av o l c ++ rest /\ AttrV w A tk av /\ TokL w A tks rest
theorem AttrV.row {w : World} {A : Nat -> Prop} {tk : Tk} {av : Value} (h : AttrV w A tk av) : w.ownsRow 0 73 3 av tk.kv.length (kvCells tk.kv) /\ tk.kv.length <= 549755813888 := by
 cases tk with
 | st nm kv => exact ⟨h.1, h.2.2⟩
 | _ =>
  have h' : av = .slice none 0 0 := h
  subst h'
  exact ⟨World.ownsRow_nil _ _ _ _, Nat.zero_le _⟩
theorem AttrV.keep {F : Nat -> Prop} {w w' : World} {A : Nat -> Prop} {tk : Tk} {av : Value} (h : AttrV w A tk av) (f : Fr F w w') (hA : ∀ k, A k -> ¬ F k) : AttrV w' A tk av := by
 cases tk with
 | st nm kv => exact ⟨ownsRow_frame h.1 f (fun k hk => hA k (h.2.1 k hk)), h.2⟩
 | _ => exact h
theorem AttrV.mono {w : World} {A B : Nat -> Prop} {tk : Tk} {av : Value} (h : AttrV w A tk av) (hAB : ∀ k, A k -> B k) : AttrV w B tk av := by
 cases tk with
 | st nm kv => exact ⟨h.1, fun k hk => hAB k (h.2.1 k hk), h.2.2⟩
 | _ => exact h
theorem TokL.keep {F : Nat -> Prop} {w w' : World} {A : Nat -> Prop} (f : Fr F w w') (hA : ∀ k, A k -> ¬ F k) : ∀ {tks : List Tk} {cs : List Value}, TokL w A tks cs -> TokL w' A tks cs := by
 intro tks
 induction tks with
 | nil => intro cs h; exact h
 | cons tk tks ih =>
  rintro cs ⟨av, o, l, c, rest, h1, h2, h3⟩
  exact ⟨av, o, l, c, rest, h1, h2.keep f hA, ih h3⟩
theorem TokL.mono {w : World} {A B : Nat -> Prop} (hAB : ∀ k, A k -> B k) : ∀ {tks : List Tk} {cs : List Value}, TokL w A tks cs -> TokL w B tks cs := by
 intro tks
 induction tks with
 | nil => intro cs h; exact h
 | cons tk tks ih =>
  rintro cs ⟨av, o, l, c, rest, h1, h2, h3⟩
  exact ⟨av, o, l, c, rest, h1, h2.mono hAB, ih h3⟩
theorem TokL.app {w : World} {A : Nat -> Prop} {tk : Tk} {av : Value} {o l c : Int} (ha : AttrV w A tk av) : ∀ {tks : List Tk} {cs : List Value}, TokL w A tks cs -> TokL w A (tks ++ [tk]) (cs ++ tokCells tk av o l c) := by
 intro tks
 induction tks with
 | nil =>
  intro cs h
  have h' : cs = [] := h
  subst h'
  exact ⟨av, o, l, c, [], by simp, ha, rfl⟩
 | cons t tks ih =>
  rintro cs ⟨av', o', l', c', rest, h1, h2, h3⟩
  exact ⟨av', o', l', c', rest ++ tokCells tk av o l c, by rw [h1, List.append_assoc], h2, ih h3⟩
theorem TokL.len {w : World} {A : Nat -> Prop} : ∀ {tks : List Tk} {cs : List Value}, TokL w A tks cs -> cs.length = tks.length * 8 := by
 intro tks
 induction tks with
 | nil => intro cs h; have h' : cs = [] := h; subst h'; rfl
 | cons tk tks ih =>
  rintro cs ⟨av, o, l, c, rest, h1, h2, h3⟩
  rw [h1, List.length_append, ih h3, List.length_cons]
  simp [tokCells]; omega
theorem itok_do (E : Dx) (p : Pa) (v : Value) (bs strm : List UInt8) (nb0 eo : Bool) (tk : Tk) (t : Value) (w : World) (h : Dec E w p v bs nb0 eo strm) (ht : TkV w t tk) :
  Calls Tryz.prog 39 #[t, .pointer (some ⟨E.D, 0, none⟩)] w fun e w' => ∃ (av : Value) (o l c : Int), e = .returned (.agg #[.int .i64 tk.kind, .string ⟨#[]⟩, .string tk.loc, av, .string tk.text, .int .i64 o, .int .i64 l, .int .i64 c]) /\ av.oneCell' = true /\ Old w w' /\ AttrV w' (fun k => w.heap.size <= k) tk av := by
 cases tk with
 | st nm kv =>
  obtain ⟨ats, pa, ca, rfl, rfl, hrow, hn⟩ := ht
  refine (itok_start E p v bs strm nb0 eo (nameB nm) pa ats.length ca ats w rfl hn hrow h).mono ?_
  rintro e w' ⟨o, l, c, av, rfl, h1, h2, h3⟩
  refine ⟨av, o, l, c, rfl, ?_, h1, ?_, h3, by simpa using hn⟩
  ·rcases h2.2 with ⟨rfl, _⟩ | ⟨g, cap, cur, rfl, _⟩ <;> rfl
  ·rw [kvCells_at, List.length_map]; exact h2
 | en nm =>
  obtain rfl : t = _ := ht
  refine (itok_end E p v bs strm nb0 eo (nameB nm) w h).mono ?_
  rintro e w' ⟨o, l, c, rfl, h1⟩
  exact ⟨.slice none 0 0, o, l, c, rfl, rfl, h1, rfl⟩
 | tx rs =>
  obtain ⟨g, cap, rfl, hl⟩ := ht
  refine (itok_text E p v bs strm nb0 eo g cap _ (nb rs) w rfl hl h).mono ?_
  rintro e w' ⟨o, l, c, rfl, h1⟩
  exact ⟨.slice none 0 0, o, l, c, rfl, rfl, h1, rfl⟩
 | cm d =>
  obtain ⟨g, cap, rfl, hl⟩ := ht
  refine (itok_cm E p v bs strm nb0 eo g cap _ d w rfl hl h).mono ?_
  rintro e w' ⟨o, l, c, rfl, h1⟩
  exact ⟨.slice none 0 0, o, l, c, rfl, rfl, h1, rfl⟩
 | pi nm d =>
  obtain ⟨g, cap, rfl, hl⟩ := ht
  refine (itok_pi E p v bs strm nb0 eo (nameB nm) g cap _ d w rfl hl h).mono ?_
  rintro e w' ⟨o, l, c, rfl, h1⟩
  exact ⟨.slice none 0 0, o, l, c, rfl, rfl, h1, rfl⟩
end
end Go.Proofs.YtepbbahdhhjibaaGreatDoor
