/- own text -/
import Derived.Test.YtepbbahdhhjibaaGreatDoorD01
namespace Go.Proofs.YtepbbahdhhjibaaGreatDoor
set_option linter.unusedSimpArgs false
set_option linter.unusedVariables false
set_option maxHeartbeats 1000000
set_option maxRecDepth 100000
section
open Go.RowKit
theorem bv_copy {cells : Array Value} {bs : List UInt8} {s : ByteArray} (h : cells.toList.take bs.length = bv bs) (_hl : bs.length + s.size <= cells.size) :
  (cells.toList.take bs.length ++ Lib.byteCells s.data.toList ++ cells.toList.drop (bs.length + s.size)).toArray.toList.take (bs ++ s.data.toList).length = bv (bs ++ s.data.toList) := by
 have e : bv (bs ++ s.data.toList) = bv bs ++ Lib.byteCells s.data.toList := by rw [bv_append]; rfl
 rw [h, e]
 have hlen : (bs ++ s.data.toList).length = (bv bs ++ Lib.byteCells s.data.toList).length := by simp [bv_len, Lib.byteCells]
 rw [hlen]
 exact List.take_left
theorem size_copy {cells : Array Value} {n : Nat} {s : ByteArray} (hl : n + s.size <= cells.size) :
  (cells.toList.take n ++ Lib.byteCells s.data.toList ++ cells.toList.drop (n + s.size)).toArray.size = cells.size := by
 have : (Lib.byteCells s.data.toList).length = s.size := by rw [Lib.byteCells_length, <- Lib.size_eq]
 simp only [List.size_toArray, List.length_append, List.length_take, List.length_drop, Array.length_toList, this]
 omega
theorem buf_writeString (B : Nat) (cs : Array Value) (T : TypeId) (v : Value) (bs : List UInt8) (s : ByteArray) (w : World) (hb : Blk w B cs T) (h7 : cs[7]? = some v) (h8 : cs[8]? = some (.int .i64 0))
  (h9 : ∃ x, cs[9]? = some x) (hr : BufRow w v bs) (hne : v.ownBlock ≠ some B) (hl : bs.length <= 1099511627776) (hs0 : 0 < s.size) (hs : s.size <= 64) :
  Calls Tryz.prog 155 #[.pointer (some ⟨B, 7, none⟩), .string s] w fun e w' => e = .returned (.tuple #[.int .i64 s.size, .nilIface]) /\
   ∃ v', Blk w' B ((cs.setIfInBounds 9 (.int .i8 0)).setIfInBounds 7 v') T /\ BufRow w' v' (bs ++ s.data.toList) /\ Fr (fun x => x = B \/ v.ownBlock = some x) w w' /\ Nw w v v' := by
 obtain ⟨x9, h9⟩ := h9
 obtain ⟨i0, hi, hz0, hz1, hz2⟩ := info_parts info5
 have hsz1 : (Tryz.prog.info? 5).map (·.size) = some 1 := by rw [hi]; simp [hz1]
 have hsl : s.data.toList.length = s.size := by rw [Lib.size_eq]
 have c7 : w.cell? ⟨B, 7, none⟩ = some v := (hb.cell 7).trans h7
 have c9 : w.cell? ⟨B, 9, none⟩ = some x9 := (hb.cell 9).trans h9
 have f7 := hb.fz 7
 have f9 := hb.fz 9
 have hB : B < w.heap.size := hb.lt
 have c79 : (w.setCell ⟨B, 9, none⟩ (.int .i8 0)).cell? ⟨B, 7, none⟩ = some v := ((hb.set 9 _).cell 7).trans ((get_set_ne (by decide) _).trans h7)
 have hw9 : (w.setCell ⟨B, 9, none⟩ (.int .i8 0)).heap.size = w.heap.size := by simp [World.setCell]
 have room : ∀ (w1 : World) (g l cap : Nat) (cells : Array Value) (ys : List UInt8), Blk w1 g cells 5 -> cells.size = cap -> l + s.size <= cap -> cells.toList.take l = bv ys -> ys.length = l -> cap <= maxLen -> 64 <= cap ->
   ∃ Y, (Builtin.copy_ #[56, 9] 3 #[.slice (some ⟨g, l, none⟩) s.size (cap - l), .string s]).run Tryz.prog w1 = .ok (goInt s.size) (w1.setRow g Y) /\
    BufRow (w1.setRow g Y) (.slice (some ⟨g, 0, none⟩) (l + s.size) cap) (ys ++ s.data.toList) := by
  intro w1 g l cap cells ys hg hc hfit ht hyl hcm h64
  subst hyl
  refine ⟨_, Lib.run_copy_row_string w1 56 9 3 5 g ys.length s.size (cap - ys.length) s cells 5 Tryz.underlying56 hsz1 hg (Nat.le_refl _) (by omega), ?_⟩
  have := BufRow.mk (bs := ys ++ s.data.toList) (hg.setRow (cells.toList.take ys.length ++ Lib.byteCells s.data.toList ++ cells.toList.drop (ys.length + s.size)).toArray) (by rw [size_copy (by omega)]; exact hc) (by rw [List.length_append, hsl]; omega) hcm h64 (bv_copy ht (by omega))
  rw [List.length_append, hsl] at this
  exact this
 rcases hr with ⟨rfl, rfl⟩ | ⟨g, cap, cells, rfl, hg, hcs, hle, hcm, h0, htk⟩
 ·
  have hc : Calls Tryz.prog 158 #[.pointer (some ⟨B, 7, none⟩), .int .i64 s.size] (w.setCell ⟨B, 9, none⟩ (.int .i8 0)) _ := buf_tryGrow_no B none 0 0 s.size _ (by omega) (by omega) (by omega) c79
  have hgr : Calls Tryz.prog 159 #[.pointer (some ⟨B, 7, none⟩), .int .i64 s.size] (w.setCell ⟨B, 9, none⟩ (.int .i8 0)) _ := buf_grow_nil B s.size _ T _ hs hs0 (hb.set 9 _) (by rw [get_set_ne (by decide)]; exact h7) (by rw [get_set_ne (by decide)]; exact h8)
  rw [hw9] at hgr
  have hgr2 := hgr.mono (R' := fun e w1 => e = .returned (.int .i64 0) /\ w1.cell? ⟨B, 7, none⟩ = some (.slice (some ⟨w.heap.size, 0, none⟩) s.size 64) /\
    ∃ Y, (Builtin.copy_ #[56, 9] 3 #[.slice (some ⟨w.heap.size, 0, none⟩) s.size 64, .string s]).run Tryz.prog w1 = .ok (goInt s.size) (w1.setRow w.heap.size Y) /\
    Hid (BufRow (w1.setRow w.heap.size Y) (.slice (some ⟨w.heap.size, 0, none⟩) s.size 64) s.data.toList /\ Blk w1 B ((cs.setIfInBounds 9 (.int .i8 0)).setIfInBounds 7 (.slice (some ⟨w.heap.size, 0, none⟩) s.size 64)) T /\ Fr (fun x => x = B) (w.setCell ⟨B, 9, none⟩ (.int .i8 0)) w1)) (by
   rintro e w1 ⟨h1, hb1, hn1, hF1⟩
   obtain ⟨Y, hY, hrY⟩ := room w1 w.heap.size 0 64 _ [] hn1 (by simp [madeCells]) (by omega) (by simp [bv]) rfl (by unfold maxLen; omega) (by omega)
   rw [Nat.zero_add] at hrY
   refine ⟨h1, ?_, Y, hY, hrY, hb1, hF1⟩
   rw [hb1.cell 7, Array.getElem?_setIfInBounds, if_pos rfl, if_pos (by simpa using (Array.getElem?_eq_some_iff.1 h7).1)])
  clear hgr hw9 room
  go_enter Tryz.func155, Tryz.ntmps155
  go_wp2_with (first | (go_at_call 158; refine hc.mono ?_; rintro e w1 ⟨rfl, rfl⟩) | (go_at_call 159; refine hgr2.mono ?_; rintro e w1 ⟨rfl, k7, Y, kc, hh⟩))
  go_ret2
  obtain ⟨hrY, hb1, hF1⟩ := hh.out
  have hne2 : w.heap.size ≠ B := by omega
  refine ⟨rfl, .slice (some ⟨w.heap.size, 0, none⟩) s.size 64, ?_, ?_, ?_, ?_⟩
  ·exact hb1.setRow_ne (Ne.symm hne2) _
  ·exact hrY
  ·refine Fr.setRow (Fr.trans ((Fr.refl (fun x => x = B \/ _) w).set (Or.inl (Or.inl rfl)) 9 _) hF1 ?_) (Or.inr (Nat.le_refl _)) _
   intro x hx; exact Or.inl (Or.inl hx)
  ·exact Nw.new (g := w.heap.size) rfl (Nat.le_refl _)
 ·have hgB : g ≠ B := fun e => hne (by simp [Value.ownBlock, e])
  have hgl : g < w.heap.size := (Array.getElem?_eq_some_iff.1 hg).1
  have hmax : cap <= 9223372036854775807 := by unfold maxLen at hcm; omega
  by_cases hroom : bs.length + s.size <= cap
  ·have hc : Calls Tryz.prog 158 #[.pointer (some ⟨B, 7, none⟩), .int .i64 s.size] (w.setCell ⟨B, 9, none⟩ (.int .i8 0)) _ := buf_tryGrow_room B g bs.length cap s.size _ hroom hmax c79 ((hb.set 9 _).fz 7)
   have hg2 : ((w.setCell ⟨B, 9, none⟩ (.int .i8 0)).setCell ⟨B, 7, none⟩ (.slice (some ⟨g, 0, none⟩) (bs.length + s.size) cap)).heap[g]? = some (.cells cells 5 (0, 0)) :=
    ((show Blk w g cells 5 from hg).set_ne (p := ⟨B, 9, none⟩) hgB _).set_ne (p := ⟨B, 7, none⟩) hgB _
   obtain ⟨Y, hcopy, hrY⟩ := room _ g bs.length cap cells bs hg2 hcs hroom htk rfl hcm h0
   have hrY := zz hrY
   clear hg room hg2 htk
   go_enter Tryz.func155, Tryz.ntmps155
   go_wp2_with (first | (go_at_call 158; refine hc.mono ?_; rintro e w1 ⟨rfl, rfl⟩))
   go_ret2
   refine ⟨rfl, .slice (some ⟨g, 0, none⟩) (bs.length + s.size) cap, ?_, ?_, ?_, ?_⟩
   ·exact ((hb.set 9 _).set 7 _).setRow_ne (Ne.symm hgB) _
   ·exact hrY.out
   ·exact ((((Fr.refl _ w).set (Or.inl (Or.inl rfl)) _ _).set (Or.inl (Or.inl rfl)) _ _).setRow (Or.inl (Or.inr rfl)) _)
   ·intro k hk; exact Or.inl hk
  ·
   have hg1 : (w.setCell ⟨B, 9, none⟩ (.int .i8 0)).heap[g]? = some (.cells cells 5 (0, 0)) := (show Blk w g cells 5 from hg).set_ne (p := ⟨B, 9, none⟩) hgB _
   have hc : Calls Tryz.prog 158 #[.pointer (some ⟨B, 7, none⟩), .int .i64 s.size] (w.setCell ⟨B, 9, none⟩ (.int .i8 0)) _ := buf_tryGrow_no B (some ⟨g, 0, none⟩) bs.length cap s.size _ hle (by omega) (by omega) c79
   have hl0 : (bs.length : Int) ≠ 0 := by omega
   ·have hgr : Calls Tryz.prog 159 #[.pointer (some ⟨B, 7, none⟩), .int .i64 s.size] (w.setCell ⟨B, 9, none⟩ (.int .i8 0)) _ := buf_grow_row B g bs.length cap s.size cells _ T _ (by rw [beq_eq_false_iff_ne]; exact hl0) hs hs0 (by omega) hle (by omega) (hb.set 9 _) (by rw [get_set_ne (by decide)]; exact h7) (by rw [get_set_ne (by decide)]; exact h8) hg1 hcs (by rw [htk]; exact bv_one _)
    rw [hw9] at hgr
    have hgr2 := hgr.mono (R' := fun e w1 => e = .returned (.int .i64 bs.length) /\ ∃ g2 cap2 Y, w1.cell? ⟨B, 7, none⟩ = some (.slice (some ⟨g2, 0, none⟩) (bs.length + s.size) cap2) /\
      (Builtin.copy_ #[56, 9] 3 #[.slice (some ⟨g2, bs.length, none⟩) s.size (cap2 - bs.length), .string s]).run Tryz.prog w1 = .ok (goInt s.size) (w1.setRow g2 Y) /\ bs.length + s.size <= cap2 /\ cap2 <= 9223372036854775807 /\
      Hid (BufRow (w1.setRow g2 Y) (.slice (some ⟨g2, 0, none⟩) (bs.length + s.size) cap2) (bs ++ s.data.toList) /\ Blk w1 B ((cs.setIfInBounds 9 (.int .i8 0)).setIfInBounds 7 (.slice (some ⟨g2, 0, none⟩) (bs.length + s.size) cap2)) T /\ w.heap.size <= g2 /\
      Fr (fun x => x = B) (w.setCell ⟨B, 9, none⟩ (.int .i8 0)) w1)) (by
     rintro e w1 ⟨h1, g2, cap2, cells2, hb1, hn1, hge, hs2, ht2, hl2, hm2, hF1⟩
     obtain ⟨Y, hY, hrY⟩ := room w1 g2 bs.length cap2 cells2 bs hn1 hs2 hl2 (ht2.trans htk) rfl hm2 (by omega)
     refine ⟨h1, g2, cap2, Y, ?_, hY, hl2, by unfold maxLen at hm2; omega, hrY, hb1, hge, hF1⟩
     rw [hb1.cell 7, Array.getElem?_setIfInBounds, if_pos rfl, if_pos (by simpa using (Array.getElem?_eq_some_iff.1 h7).1)])
    clear hgr hw9 hg1 hg htk room
    go_enter Tryz.func155, Tryz.ntmps155
    go_wp2_with (first | (go_at_call 158; refine hc.mono ?_; rintro e w1 ⟨rfl, rfl⟩) | (go_at_call 159; refine hgr2.mono ?_; rintro e w1 ⟨rfl, g2, cap2, Y, k7, kc, kl, km, hh⟩))
    go_ret2
    obtain ⟨hrY, hb1, hge, hF1⟩ := hh.out
    have hne2 : g2 ≠ B := by omega
    refine ⟨rfl, .slice (some ⟨g2, 0, none⟩) (bs.length + s.size) cap2, ?_, ?_, ?_, ?_⟩
    ·exact hb1.setRow_ne (Ne.symm hne2) _
    ·exact hrY
    ·refine Fr.setRow (Fr.trans ((Fr.refl (fun x => x = B \/ _) w).set (Or.inl (Or.inl rfl)) 9 _) hF1 ?_) (Or.inr hge) _
     intro x hx; exact Or.inl (Or.inl hx)
    ·exact Nw.new (g := g2) rfl hge
theorem BufRow.cut {w : World} {v : Value} {bs : List UInt8} (h : BufRow w v bs) (n : Nat) (hn : n <= bs.length) :
  (v = .slice none 0 0 /\ n = 0) \/ ∃ g cap, v = .slice (some ⟨g, 0, none⟩) bs.length cap /\ bs.length <= cap /\ cap <= maxLen /\ BufRow w (.slice (some ⟨g, 0, none⟩) n cap) (bs.take n) := by
 rcases h with ⟨rfl, rfl⟩ | ⟨g, cap, cells, rfl, hg, hcs, hle, hcm, h0, htk⟩
 ·exact Or.inl ⟨rfl, by simpa using hn⟩
 ·refine Or.inr ⟨g, cap, rfl, hle, hcm, ?_⟩
  have hl : (bs.take n).length = n := by simp; omega
  have := BufRow.mk (w := w) (bs := bs.take n) (cells := cells) hg hcs (by omega) hcm h0 (by
   rw [hl]
   have := congrArg (List.take n) htk
   rw [List.take_take, Nat.min_eq_left hn] at this
   rw [this]; simp [bv, List.map_take])
  rwa [hl] at this
theorem buf_reset (B : Nat) (cs : Array Value) (T : TypeId) (v : Value) (bs : List UInt8) (w : World) (hb : Blk w B cs T) (h7 : cs[7]? = some v) (h8 : cs[8]? = some (.int .i64 0))
  (h9 : ∃ x, cs[9]? = some x) (hr : BufRow w v bs) (hne : v.ownBlock ≠ some B) :
  Calls Tryz.prog 118 #[.pointer (some ⟨B, 7, none⟩)] w fun e w' => e = .returned (.tuple #[]) /\
   ∃ v', Blk w' B ((cs.setIfInBounds 9 (.int .i8 0)).setIfInBounds 7 v') T /\ BufRow w' v' [] /\ Fr (fun x => x = B) w w' /\ v'.ownBlock = v.ownBlock /\ (v = .slice none 0 0 ↔ v' = .slice none 0 0) := by
 obtain ⟨x9, h9⟩ := h9
 have c7 : w.cell? ⟨B, 7, none⟩ = some v := (hb.cell 7).trans h7
 have c8 : w.cell? ⟨B, 8, none⟩ = some (.int .i64 0) := (hb.cell 8).trans h8
 have c9 : w.cell? ⟨B, 9, none⟩ = some x9 := (hb.cell 9).trans h9
 have f7 := hb.fz 7
 have f8 := hb.fz 8
 have f9 := hb.fz 9
 have fin : ∀ v', Blk ((((w.setCell ⟨B, 7, none⟩ v').setCell ⟨B, 8, none⟩ (.int .i64 0)).setCell ⟨B, 9, none⟩ (.int .i8 0))) B ((cs.setIfInBounds 9 (.int .i8 0)).setIfInBounds 7 v') T := fun v' => by
  have := ((hb.set 7 v').set 8 (.int .i64 0)).set 9 (.int .i8 0)
  rw [set_same (i := 8) (by rw [get_set_ne (by decide)]; exact h8), Array.setIfInBounds_comm _ _ (by decide)] at this
  exact this
 have fr : ∀ v', Fr (fun x => x = B) w ((((w.setCell ⟨B, 7, none⟩ v').setCell ⟨B, 8, none⟩ (.int .i64 0)).setCell ⟨B, 9, none⟩ (.int .i8 0))) := fun v' => (((Fr.refl (fun x => x = B) w).set (Or.inl rfl) _ _).set (Or.inl rfl) _ _).set (Or.inl rfl) _ _
 rcases hr.cut 0 (Nat.zero_le _) with ⟨rfl, -⟩ | ⟨g, cap, rfl, hle, hcm, hr'⟩
 ·have fin := zz fin
  have fr := zz fr
  go_enter Tryz.func118, Tryz.ntmps118
  go_wp2
  go_end0
  exact ⟨rfl, _, fin.out _, Or.inl ⟨rfl, rfl⟩, fr.out _, rfl, by simp⟩
 ·have fin := zz fin
  have fr := zz fr
  have hgB : (Value.slice (some ⟨g, 0, none⟩) bs.length cap).ownBlock = some g := rfl
  have hmax : cap <= 9223372036854775807 := by unfold maxLen at hcm; omega
  go_enter Tryz.func118, Tryz.ntmps118
  go_wp2
  go_end0
  refine ⟨rfl, _, fin.out _, ?_, fr.out _, rfl, by simp⟩
  exact hr'.keep (fr.out _) (fun k hk => by rintro rfl; exact hne hk)
theorem buf_truncate (B n : Nat) (cs : Array Value) (T : TypeId) (v : Value) (bs : List UInt8) (w : World) (hb : Blk w B cs T) (h7 : cs[7]? = some v) (h8 : cs[8]? = some (.int .i64 0))
  (h9 : ∃ x, cs[9]? = some x) (hr : BufRow w v bs) (hne : v.ownBlock ≠ some B) (hn : n <= bs.length) (hl : bs.length <= 1099511627776) :
  Calls Tryz.prog 123 #[.pointer (some ⟨B, 7, none⟩), .int .i64 n] w fun e w' => e = .returned (.tuple #[]) /\
   ∃ v', Blk w' B ((cs.setIfInBounds 9 (.int .i8 0)).setIfInBounds 7 v') T /\ BufRow w' v' (bs.take n) /\ Fr (fun x => x = B) w w' /\ v'.ownBlock = v.ownBlock := by
 by_cases hn0 : n = 0
 ·subst hn0
  have hc := buf_reset B cs T v bs w hb h7 h8 h9 hr hne
  go_enter Tryz.func123, Tryz.ntmps123
  go_wp2_with (first | (go_at_call 118; refine hc.mono ?_; rintro e w1 ⟨rfl, v', hb', hr', hf', ho', hi'⟩; have hb' := zz hb'; have hi' := zz hi'))
  refine bodyPost_ret (results_none rfl _ _ _) rfl ?_
  exact ⟨rfl, v', hb'.out, hr', hf', ho'⟩
 ·obtain ⟨x9, h9⟩ := h9
  have c7 : w.cell? ⟨B, 7, none⟩ = some v := (hb.cell 7).trans h7
  have c8 : w.cell? ⟨B, 8, none⟩ = some (.int .i64 0) := (hb.cell 8).trans h8
  have c9 : w.cell? ⟨B, 9, none⟩ = some x9 := (hb.cell 9).trans h9
  rcases hr.cut n hn with ⟨rfl, h⟩ | ⟨g, cap, rfl, hle, hcm, hr'⟩
  ·exact absurd h hn0
  ·have c79 : (w.setCell ⟨B, 9, none⟩ (.int .i8 0)).cell? ⟨B, 7, none⟩ = some (.slice (some ⟨g, 0, none⟩) bs.length cap) := ((hb.set 9 _).cell 7).trans ((get_set_ne (by decide) _).trans h7)
   have c89 : (w.setCell ⟨B, 9, none⟩ (.int .i8 0)).cell? ⟨B, 8, none⟩ = some (.int .i64 0) := ((hb.set 9 _).cell 8).trans ((get_set_ne (by decide) _).trans h8)
   have f7 := (hb.set 9 (.int .i8 0)).fz 7
   have f9 := hb.fz 9
   have hlen := buf_len B _ bs.length cap _ (by omega) c79 c89
   have hmax : cap <= 9223372036854775807 := by unfold maxLen at hcm; omega
   have hnz : ((n : Int) == 0) = false := by rw [beq_eq_false_iff_ne]; omega
   have hlen2 := hlen.mono (R' := fun e w1 => e = .returned (.int .i64 bs.length) /\ w1.cell? ⟨B, 7, none⟩ = some (.slice (some ⟨g, 0, none⟩) bs.length cap) /\ w1.cell? ⟨B, 8, none⟩ = some (.int .i64 0) /\ w1.frozen? ⟨B, 7, none⟩ = false /\
     Hid (∃ k, w1 = (w.setCell ⟨B, 9, none⟩ (.int .i8 0)).drewN k)) (by
    rintro e w1 ⟨h1, k, h2⟩
    refine ⟨h1, ?_, ?_, ?_, k, h2⟩
    ·rw [h2]; exact c79
    ·rw [h2]; exact c89
    ·rw [h2]; exact f7)
   clear hlen
   have hr' := zz hr'
   have hwr : IntKind.i64.wrap ((0 : Int) + n) = n := by rw [Int.zero_add]; exact IntWalk.i64_in _ (by omega)
   have hncap : n <= cap := by omega
   have hwr2 : IntKind.i64.wrap (n : Int) = n := IntWalk.i64_in _ (by omega)
   go_enter Tryz.func123, Tryz.ntmps123
   go_wp2_with (first | (go_at_call 124; refine hlen2.mono ?_; rintro e w1 ⟨rfl, k7, k8, kf, hh⟩))
   refine wp_region_tail 14 [] [0, 1, 2, 3, 4, 5, 6, 7, 8, 9, 10, 11, 12, 13] (by kernel_rfl) (by kernel_rfl) (fun _ _ _ _ _ h => h) ?_
   simp only [List.filterMap_cons, List.filterMap_nil, List.getElem?_toArray, List.getElem?_cons_zero, List.getElem?_cons_succ, List.nil_append, List.cons_append, List.drop_succ_cons, List.drop_zero]
   repeat still_step
   refine wpStill_nil ?_
   go_wp2
   go_end0
   obtain ⟨k, hw1⟩ := hh.out
   subst hw1
   refine ⟨rfl, .slice (some ⟨g, 0, none⟩) n cap, ?_, ?_, ?_, rfl⟩
   ·exact (hb.set 9 (.int .i8 0)).set 7 _
   ·exact hr'.out.keep (F := fun x => x = B) (Fr.drew (Fr.set (Fr.drewN (Fr.set (Fr.refl (fun x => x = B) w) (Or.inl rfl) _ _) _) (Or.inl rfl) _ _)) (fun k hk => by rintro rfl; exact hne hk)
   ·exact Fr.drew (Fr.set (Fr.drewN (Fr.set (Fr.refl (fun x => x = B) w) (Or.inl rfl) _ _) _) (Or.inl rfl) _ _)
theorem buf_bytes (B : Nat) (v : Value) (bs : List UInt8) (w : World) (c7 : w.cell? ⟨B, 7, none⟩ = some v) (c8 : w.cell? ⟨B, 8, none⟩ = some (.int .i64 0)) (hr : BufRow w v bs) :
  Calls Tryz.prog 120 #[.pointer (some ⟨B, 7, none⟩)] w fun e w' => e = .returned v /\ ∃ n, w' = w.drewN n := by
 rcases hr with ⟨rfl, rfl⟩ | ⟨g, cap, cells, rfl, hg, hcs, hle, hcm, h0, htk⟩
 ·go_enter Tryz.func120, Tryz.ntmps120
  go_wp2
  go_quiet (fail)
  go_wp2
  go_ret
  exact ⟨rfl, _, rfl⟩
 ·have hmax : cap <= 9223372036854775807 := by unfold maxLen at hcm; omega
  clear hg htk
  go_enter Tryz.func120, Tryz.ntmps120
  go_wp2
  go_quiet (fail)
  go_wp2
  go_ret
  exact ⟨rfl, _, rfl⟩
end
section
open Go.RowKit
theorem run_copy_row_string_min {P : Program} (w : World) (dT sT ty elem : TypeId) (g o dLen dCap : Nat) (s : ByteArray) (cur : Array Value) (t : TypeId)
  (hu : P.underlying dT = some (.slice elem)) (hs : (P.info? elem).map (·.size) = some 1) (hg : w.heap[g]? = some (.cells cur t (0, 0))) (hfit : o + min s.size dLen <= cur.size) :
  (Builtin.copy_ #[dT, sT] ty #[.slice (some ⟨g, o, none⟩) dLen dCap, .string s]).run P w =
   .ok (goInt ((min s.size dLen : Nat) : Int)) (w.setRow g (cur.toList.take o ++ (bv s.data.toList).take (min s.size dLen) ++ cur.toList.drop (o + min s.size dLen)).toArray) := by
 have hlen : ((bv s.data.toList).take (min s.size dLen)).length = min s.size dLen := by rw [List.length_take, bv_len, Lib.size_eq]; omega
 have hone : ∀ v ∈ (bv s.data.toList).take (min s.size dLen), v.oneCell' = true := fun v hv => bv_one _ v (List.mem_of_mem_take hv)
 have hst := run_storeCells_at P g o t ((bv s.data.toList).take (min s.size dLen)) 0 cur w hg (by rw [hlen]; simpa using hfit) hone
 rw [hlen] at hst
 simp only [Nat.add_zero] at hst
 have hmin : Nat.min s.size dLen = min s.size dLen := rfl
 have htk : List.take (min s.size dLen) (List.map (fun b : UInt8 => Value.int IntKind.u8 (b.toNat : Int)) s.data.toList) = (bv s.data.toList).take (min s.size dLen) := rfl
 cases hq : P.info? elem with
 | none => simp [hq] at hs
 | some i =>
  simp [Builtin.copy_, run_underlying hu, Builtin.lenOf, Builtin.firstCells, sizeOf, typeInfo, hq, hmin]
  rw [htk, hst]
  simp [Result.andThen]
theorem reader_read_eof (RD : Nat) (T : TypeId) (a : Option Addr) (n cap : Nat) (eofV : Value) (w : World) (hG : w.cell? ⟨0, 0, none⟩ = some eofV) (he : ∃ t p, eofV = .iface t (.pointer (some p)))
  (hr : Blk w RD #[.string ⟨#[]⟩, .slice none 0 0, .int .i64 0, .bool false] T) :
  Calls Tryz.prog 219 #[.pointer (some ⟨RD, 0, none⟩), .slice a n cap] w fun e w' => e = .returned (.tuple #[.int .i64 0, eofV]) /\ ∃ k, w' = w.drewN k := by
 have c0 := hr.cell 0
 have c3 := hr.cell 3
 obtain ⟨et, ep, rfl⟩ := he
 simp at c0 c3
 clear hr
 go_enter Tryz.func219, Tryz.ntmps219
 go_wp2
 go_quiet (fail)
 go_wp2
 go_ret2
 exact ⟨rfl, _, rfl⟩
theorem reader_read (RD g o n cap : Nat) (T : TypeId) (s : ByteArray) (cells : Array Value) (w : World) (hs : 0 < s.size) (hs2 : s.size <= 1099511627776) (hn : n <= 1099511627776) (hnc : n <= cap) (hcap : cap <= 1099511627776)
  (hr : Blk w RD #[.string s, .slice none 0 0, .int .i64 0, .bool false] T) (hg : Blk w g cells 5) (hfit : o + n <= cells.size) (hne : RD ≠ g) :
  Calls Tryz.prog 219 #[.pointer (some ⟨RD, 0, none⟩), .slice (some ⟨g, o, none⟩) n cap] w fun e w' => e = .returned (.tuple #[.int .i64 ((min s.size n : Nat) : Int), .nilIface]) /\
   Blk w' RD #[.string (s.extract (min s.size n) s.size), .slice none 0 0, .int .i64 0, .bool false] T /\
   Blk w' g (cells.toList.take o ++ (bv s.data.toList).take (min s.size n) ++ cells.toList.drop (o + min s.size n)).toArray 5 /\ Fr (fun x => x = RD \/ x = g) w w' := by
 have c0 := hr.cell 0
 have c1 := hr.cell 1
 simp at c0 c1
 have f0 := hr.fz 0
 have hs0 : s.toList.isEmpty = false := toList_ne hs
 obtain ⟨i0, hi, hz0, hz1, hz2⟩ := info_parts info5
 have hsz1 : (Tryz.prog.info? 5).map (·.size) = some 1 := by rw [hi]; simp [hz1]
 have hcopy := run_copy_row_string_min (P := Tryz.prog) w.drew 56 9 3 5 g o n cap s cells 5 Tryz.underlying56 hsz1 hg (by omega)
 generalize hY : (cells.toList.take o ++ (bv s.data.toList).take (min s.size n) ++ cells.toList.drop (o + min s.size n)).toArray = Y at hcopy
 have hY := zz hY
 have hr := zz hr
 have hg := zz hg
 generalize hm : min s.size n = m at hcopy
 have hms : m <= s.size := by omega
 have hmn : m <= n := by omega
 have hm := zz hm
 have c0' : (w.drew.setRow g Y).cell? ⟨RD, 0, none⟩ = some (.string s) := by have := (Blk.setRow_ne (w := w.drew) hr.out hne Y).cell 0; simpa using this
 have f0' : (w.drew.setRow g Y).frozen? ⟨RD, 0, none⟩ = false := (Blk.setRow_ne (w := w.drew) hr.out hne Y).fz 0
 go_enter Tryz.func219, Tryz.ntmps219
 go_wp2
 refine wp_region_tail 7 [] [0, 1, 2, 3, 4, 5, 6] (by kernel_rfl) (by kernel_rfl) (fun _ _ _ _ _ h => h) ?_
 simp only [List.filterMap_cons, List.filterMap_nil, List.getElem?_toArray, List.getElem?_cons_zero, List.getElem?_cons_succ, List.nil_append, List.cons_append, List.drop_succ_cons, List.drop_zero]
 repeat still_step
 refine wpStill_nil ?_
 go_wp2
 go_ret2
 refine ⟨rfl, ?_, ?_, ?_⟩
 ·exact (Blk.setRow_ne (w := w.drew) hr.out hne Y).set 0 _
 ·exact (Blk.setRow (w := w.drew) hg.out Y).set_ne (Ne.symm hne) _
 ·exact (((Fr.refl (fun x => x = RD \/ x = g) w).drew).setRow (Or.inl (Or.inr rfl)) _).set (Or.inl (Or.inl rfl)) _ _
end
section
open Go.RowKit
def rdA (RB RD : Nat) (r w : Nat) (err : Value) (lb lr : Int) : Array Value :=
 #[.slice (some ⟨RB, 0, none⟩) 4096 4096, .iface 77 (.pointer (some ⟨RD, 0, none⟩)), .int .i64 r, .int .i64 w, err, .int .i64 lb, .int .i64 lr]
def rdrA (s : ByteArray) : Array Value := #[.string s, .slice none 0 0, .int .i64 0, .bool false]
theorem method_read (a : Addr) (w : World) : (method 453 77 (.pointer (some a)) "Read").run Tryz.prog w = .ok (219, .pointer (some a)) w := by kernel_rfl
theorem fill_some (R RB RD k : Nat) (T TD : TypeId) (lb lr : Int) (s : ByteArray) (cells : Array Value) (w : World) (hs : 0 < s.size) (hs2 : s.size <= 1099511627776) (hk : k <= 4096) (hcs : cells.size = 4096)
  (hR : Blk w R (rdA RB RD k k .nilIface lb lr) T) (hD : Blk w RD (rdrA s) TD) (hB : Blk w RB cells 5) (h1 : R ≠ RB) (h2 : R ≠ RD) (h3 : RD ≠ RB) :
  Calls Tryz.prog 249 #[.pointer (some ⟨R, 0, none⟩)] w fun e w' => e = .returned (.tuple #[]) /\
   Blk w' R (rdA RB RD 0 (min s.size 4096) .nilIface lb lr) T /\ Blk w' RD (rdrA (s.extract (min s.size 4096) s.size)) TD /\
   Blk w' RB ((bv s.data.toList).take (min s.size 4096) ++ cells.toList.drop (min s.size 4096)).toArray 5 /\ Fr (fun x => x = R \/ x = RD \/ x = RB) w w' := by
 have c0 := hR.cell 0
 have c1 := hR.cell 1
 have c2 := hR.cell 2
 have c3 := hR.cell 3
 simp [rdA] at c0 c1 c2 c3
 have f2 := hR.fz 2
 have f3 := hR.fz 3
 have hR' := zz hR
 have hD' := zz hD
 have hB' := zz hB
 by_cases hk0 : k = 0
 ·subst hk0
  have hread := fun k => (reader_read RD RB 0 4096 4096 TD s cells (w.drewN k) hs hs2 (by omega) (by omega) (by omega) hD hB (by omega) h3).mono (R' := fun e w1 => e = .returned (.tuple #[.int .i64 ((min s.size 4096 : Nat) : Int), .nilIface]) /\ w1.cell? ⟨R, 3, none⟩ = some (.int .i64 0) /\ w1.frozen? ⟨R, 3, none⟩ = false /\
    Hid (Blk w1 R (rdA RB RD 0 0 .nilIface lb lr) T /\ Blk w1 RD (rdrA (s.extract (min s.size 4096) s.size)) TD /\
   Blk w1 RB ((bv s.data.toList).take (min s.size 4096) ++ cells.toList.drop (min s.size 4096)).toArray 5 /\ Fr (fun x => x = R \/ x = RD \/ x = RB) w w1)) (by
   rintro e w1 ⟨h1, h2', h3', h4'⟩
   have hR1 : Blk w1 R (rdA RB RD 0 0 .nilIface lb lr) T := Blk.keep (w := w.drewN k) hR h4' (by rintro (h | h) <;> contradiction)
   refine ⟨h1, by rw [hR1.cell]; rfl, hR1.fz 3, hR1, h2', by simpa using h3', ?_⟩
   exact ((Fr.refl _ w).drewN k).trans h4' (fun x hx => Or.inl (Or.inr hx)))
  have hmin : min s.size 4096 <= 4096 := Nat.min_le_right _ _
  have hmin1 : 1 <= min s.size 4096 := by omega
  generalize hmm : min s.size 4096 = m at hread hmin hmin1
  have hmm := zz hmm
  clear hR hD hB
  go_enter Tryz.func249, Tryz.ntmps249
  go_wp2
  go_quiet (fail)
  go_wp2
  refine wp_loop_rounds 1 ?_
  rw [rounds_succ]
  go_wp2
  refine wp_region_tail 15 [] [0, 1, 2, 3, 4, 5, 6, 7, 8, 9, 10, 11, 12, 13, 14] (by kernel_rfl) (by kernel_rfl) (fun _ _ _ _ _ h => h) ?_
  simp only [List.filterMap_cons, List.filterMap_nil, List.getElem?_toArray, List.getElem?_cons_zero, List.getElem?_cons_succ, List.nil_append, List.cons_append, List.drop_succ_cons, List.drop_zero]
  repeat still_step
  refine wpStill_nil ?_
  have hm := fun w => method_read ⟨RD, 0, none⟩ w
  go_wp2_with (first | (go_at_call 219; refine (hread _).mono ?_; rintro e w1 ⟨rfl, m3, n3, hh⟩))
  refine bodyPost_ret (results_none rfl _ _ _) rfl ?_
  obtain ⟨g1, g2, g3, g4⟩ := hh.out
  refine ⟨rfl, g1.set 3 _, g2.set_ne (Ne.symm h2) _, ?_, g4.set (Or.inl (Or.inl rfl)) _ _⟩
  exact g3.set_ne (Ne.symm h1) _
 ·have hkk : ((k : Int) - k) = 0 := by omega
  have hR2 : Blk ((w.setCell ⟨R, 3, none⟩ (.int .i64 0)).setCell ⟨R, 2, none⟩ (.int .i64 0)) R (rdA RB RD 0 0 .nilIface lb lr) T := (hR.set 3 _).set 2 _
  have hD2 : Blk ((w.setCell ⟨R, 3, none⟩ (.int .i64 0)).setCell ⟨R, 2, none⟩ (.int .i64 0)) RD (rdrA s) TD := (hD.set_ne (Ne.symm h2) _).set_ne (Ne.symm h2) _
  have hB2 : Blk ((w.setCell ⟨R, 3, none⟩ (.int .i64 0)).setCell ⟨R, 2, none⟩ (.int .i64 0)) RB cells 5 := (hB.set_ne (Ne.symm h1) _).set_ne (Ne.symm h1) _
  have hF2 : Fr (fun x => x = R \/ x = RD \/ x = RB) w ((w.setCell ⟨R, 3, none⟩ (.int .i64 0)).setCell ⟨R, 2, none⟩ (.int .i64 0)) := ((Fr.refl _ w).set (Or.inl (Or.inl rfl)) _ _).set (Or.inl (Or.inl rfl)) _ _
  generalize hW2 : (w.setCell ⟨R, 3, none⟩ (.int .i64 0)).setCell ⟨R, 2, none⟩ (.int .i64 0) = W2 at hR2 hD2 hB2 hF2
  have hread := fun k => (reader_read RD RB 0 4096 4096 TD s cells (W2.drewN k) hs hs2 (by omega) (by omega) (by omega) hD2 hB2 (by omega) h3).mono (R' := fun e w1 => e = .returned (.tuple #[.int .i64 ((min s.size 4096 : Nat) : Int), .nilIface]) /\ w1.cell? ⟨R, 3, none⟩ = some (.int .i64 0) /\ w1.frozen? ⟨R, 3, none⟩ = false /\
    Hid (Blk w1 R (rdA RB RD 0 0 .nilIface lb lr) T /\ Blk w1 RD (rdrA (s.extract (min s.size 4096) s.size)) TD /\
   Blk w1 RB ((bv s.data.toList).take (min s.size 4096) ++ cells.toList.drop (min s.size 4096)).toArray 5 /\ Fr (fun x => x = R \/ x = RD \/ x = RB) w w1)) (by
   rintro e w1 ⟨h1, h2', h3', h4'⟩
   have hR1 : Blk w1 R (rdA RB RD 0 0 .nilIface lb lr) T := Blk.keep (w := W2.drewN k) hR2 h4' (by rintro (h | h) <;> contradiction)
   refine ⟨h1, by rw [hR1.cell]; rfl, hR1.fz 3, hR1, h2', by simpa using h3', ?_⟩
   exact (hF2.drewN k).trans h4' (fun x hx => Or.inl (Or.inr hx)))
  subst hW2
  have hmin : min s.size 4096 <= 4096 := Nat.min_le_right _ _
  have hmin1 : 1 <= min s.size 4096 := by omega
  generalize hmm : min s.size 4096 = m at hread hmin hmin1
  have hmm := zz hmm
  clear hR hD hB hR2 hD2 hB2 hF2
  have hcn : ∀ (sp : Option Addr) (sCap : Nat) (w : World), (Builtin.copy_ #[56, 56] 3 #[.slice (some ⟨RB, 0, none⟩) 4096 4096, .slice sp 0 sCap]).run Tryz.prog w = .ok (goInt 0) w := fun sp sCap w => run_copy_none (P := Tryz.prog) w 56 56 3 5 _ sp 4096 4096 0 sCap Tryz.underlying56 (by obtain ⟨i0, hi, hz0, hz1, hz2⟩ := info_parts info5; rw [hi]; simp [hz1]) rfl
  have hkp : (0 : Int) < k := by omega
  have hkI : (k : Int) <= 4096 := by omega
  have hm := fun w => method_read ⟨RD, 0, none⟩ w
  have hw0 : IntKind.i64.wrap 0 = 0 := by decide
  by_cases hk4 : 4096 = k
  ·subst hk4
   go_enter Tryz.func249, Tryz.ntmps249
   go_wp2
   refine wp_region_tail 17 [] [0, 1, 2, 3, 4, 5, 6, 7, 8, 9, 10, 11, 12, 13, 14, 15, 16] (by kernel_rfl) (by kernel_rfl) (fun _ _ _ _ _ h => h) ?_
   simp only [List.filterMap_cons, List.filterMap_nil, List.getElem?_toArray, List.getElem?_cons_zero, List.getElem?_cons_succ, List.nil_append, List.cons_append, List.drop_succ_cons, List.drop_zero]
   repeat still_step
   refine wpStill_nil ?_
   go_wp2
   refine wp_region_tail 11 [] [0, 1, 2, 3, 4, 5, 6, 7, 8, 9, 10] (by kernel_rfl) (by kernel_rfl) (fun _ _ _ _ _ h => h) ?_
   simp only [List.filterMap_cons, List.filterMap_nil, List.getElem?_toArray, List.getElem?_cons_zero, List.getElem?_cons_succ, List.nil_append, List.cons_append, List.drop_succ_cons, List.drop_zero]
   repeat still_step
   refine wpStill_nil ?_
   go_wp2
   go_quiet (fail)
   go_wp2
   refine wp_loop_rounds 1 ?_
   rw [rounds_succ]
   go_wp2
   refine wp_region_tail 15 [] [0, 1, 2, 3, 4, 5, 6, 7, 8, 9, 10, 11, 12, 13, 14] (by kernel_rfl) (by kernel_rfl) (fun _ _ _ _ _ h => h) ?_
   simp only [List.filterMap_cons, List.filterMap_nil, List.getElem?_toArray, List.getElem?_cons_zero, List.getElem?_cons_succ, List.nil_append, List.cons_append, List.drop_succ_cons, List.drop_zero]
   repeat still_step
   refine wpStill_nil ?_
   go_wp2_with (first | (go_at_call 219; refine (hread _).mono ?_; rintro e w1 ⟨rfl, m3, n3, hh⟩))
   refine bodyPost_ret (results_none rfl _ _ _) rfl ?_
   obtain ⟨g1, g2, g3, g4⟩ := hh.out
   refine ⟨rfl, g1.set 3 _, g2.set_ne (Ne.symm h2) _, g3.set_ne (Ne.symm h1) _, g4.set (Or.inl (Or.inl rfl)) _ _⟩
  ·skip
   go_enter Tryz.func249, Tryz.ntmps249
   go_wp2
   refine wp_region_tail 17 [] [0, 1, 2, 3, 4, 5, 6, 7, 8, 9, 10, 11, 12, 13, 14, 15, 16] (by kernel_rfl) (by kernel_rfl) (fun _ _ _ _ _ h => h) ?_
   simp only [List.filterMap_cons, List.filterMap_nil, List.getElem?_toArray, List.getElem?_cons_zero, List.getElem?_cons_succ, List.nil_append, List.cons_append, List.drop_succ_cons, List.drop_zero]
   repeat still_step
   refine wpStill_nil ?_
   go_wp2
   refine wp_region_tail 11 [] [0, 1, 2, 3, 4, 5, 6, 7, 8, 9, 10] (by kernel_rfl) (by kernel_rfl) (fun _ _ _ _ _ h => h) ?_
   simp only [List.filterMap_cons, List.filterMap_nil, List.getElem?_toArray, List.getElem?_cons_zero, List.getElem?_cons_succ, List.nil_append, List.cons_append, List.drop_succ_cons, List.drop_zero]
   repeat still_step
   refine wpStill_nil ?_
   go_wp2
   go_quiet (fail)
   go_wp2
   refine wp_loop_rounds 1 ?_
   rw [rounds_succ]
   go_wp2
   refine wp_region_tail 15 [] [0, 1, 2, 3, 4, 5, 6, 7, 8, 9, 10, 11, 12, 13, 14] (by kernel_rfl) (by kernel_rfl) (fun _ _ _ _ _ h => h) ?_
   simp only [List.filterMap_cons, List.filterMap_nil, List.getElem?_toArray, List.getElem?_cons_zero, List.getElem?_cons_succ, List.nil_append, List.cons_append, List.drop_succ_cons, List.drop_zero]
   repeat still_step
   refine wpStill_nil ?_
   go_wp2_with (first | (go_at_call 219; refine (hread _).mono ?_; rintro e w1 ⟨rfl, m3, n3, hh⟩))
   refine bodyPost_ret (results_none rfl _ _ _) rfl ?_
   obtain ⟨g1, g2, g3, g4⟩ := hh.out
   refine ⟨rfl, g1.set 3 _, g2.set_ne (Ne.symm h2) _, g3.set_ne (Ne.symm h1) _, g4.set (Or.inl (Or.inl rfl)) _ _⟩
end
section
open Go.RowKit
theorem fill_eof (R RB RD k : Nat) (T TD : TypeId) (lb lr : Int) (et : TypeId) (ep : Addr) (w : World) (hG : w.cell? ⟨0, 0, none⟩ = some (.iface et (.pointer (some ep)))) (hR0 : R ≠ 0) (hk : k <= 4096)
  (hR : Blk w R (rdA RB RD k k .nilIface lb lr) T) (hD : Blk w RD (rdrA ⟨#[]⟩) TD) (h2 : R ≠ RD) :
  Calls Tryz.prog 249 #[.pointer (some ⟨R, 0, none⟩)] w fun e w' => e = .returned (.tuple #[]) /\
   Blk w' R (rdA RB RD 0 0 (.iface et (.pointer (some ep))) lb lr) T /\ Fr (fun x => x = R) w w' := by
 have c0 := hR.cell 0
 have c1 := hR.cell 1
 have c2 := hR.cell 2
 have c3 := hR.cell 3
 have c4 := hR.cell 4
 simp [rdA] at c0 c1 c2 c3 c4
 have f2 := hR.fz 2
 have f3 := hR.fz 3
 have f4 := hR.fz 4
 have key : ∀ W, Blk W R (rdA RB RD 0 0 .nilIface lb lr) T -> Blk W RD (rdrA ⟨#[]⟩) TD -> W.cell? ⟨0, 0, none⟩ = some (.iface et (.pointer (some ep))) -> Fr (fun x => x = R) w W ->
   ∀ k, Calls Tryz.prog 219 #[.pointer (some ⟨RD, 0, none⟩), .slice (some ⟨RB, 0, none⟩) 4096 4096] (W.drewN k) fun e w1 => e = .returned (.tuple #[.int .i64 0, .iface et (.pointer (some ep))]) /\ w1.cell? ⟨R, 3, none⟩ = some (.int .i64 0) /\ w1.cell? ⟨R, 4, none⟩ = some .nilIface /\ w1.frozen? ⟨R, 3, none⟩ = false /\ w1.frozen? ⟨R, 4, none⟩ = false /\
    Hid (Blk w1 R (rdA RB RD 0 0 .nilIface lb lr) T /\ Fr (fun x => x = R) w w1) := by
  intro W hR1 hD1 hG1 hF1 k
  refine (reader_read_eof RD TD (some ⟨RB, 0, none⟩) 4096 4096 _ (W.drewN k) hG1 ⟨et, ep, rfl⟩ hD1).mono ?_
  rintro e w1 ⟨h1, j, rfl⟩
  have hR2 : Blk ((W.drewN k).drewN j) R (rdA RB RD 0 0 .nilIface lb lr) T := hR1
  exact ⟨h1, by rw [hR2.cell]; rfl, by rw [hR2.cell]; rfl, hR2.fz 3, hR2.fz 4, hR2, (hF1.drewN k).drewN j⟩
 have hm := fun w => method_read ⟨RD, 0, none⟩ w
 have hw0 : IntKind.i64.wrap 0 = 0 := by decide
 by_cases hk0 : k = 0
 ·subst hk0
  have hread := key w hR hD hG (Fr.refl _ _)
  clear hR hD key
  go_enter Tryz.func249, Tryz.ntmps249
  go_wp2
  go_quiet (fail)
  go_wp2
  refine wp_loop_rounds 1 ?_
  rw [rounds_succ]
  go_wp2
  refine wp_region_tail 15 [] [0, 1, 2, 3, 4, 5, 6, 7, 8, 9, 10, 11, 12, 13, 14] (by kernel_rfl) (by kernel_rfl) (fun _ _ _ _ _ h => h) ?_
  simp only [List.filterMap_cons, List.filterMap_nil, List.getElem?_toArray, List.getElem?_cons_zero, List.getElem?_cons_succ, List.nil_append, List.cons_append, List.drop_succ_cons, List.drop_zero]
  repeat still_step
  refine wpStill_nil ?_
  go_wp2_with (first | (go_at_call 219; refine (hread _).mono ?_; rintro e w1 ⟨rfl, m3, m4, n3, n4, hh⟩))
  refine bodyPost_ret (results_none rfl _ _ _) rfl ?_
  obtain ⟨g1, g4⟩ := hh.out
  refine ⟨rfl, ?_, (g4.set (Or.inl rfl) _ _).set (Or.inl rfl) _ _⟩
  exact (g1.set 3 _).set 4 _
 ·have hR2 : Blk ((w.setCell ⟨R, 3, none⟩ (.int .i64 0)).setCell ⟨R, 2, none⟩ (.int .i64 0)) R (rdA RB RD 0 0 .nilIface lb lr) T := (hR.set 3 _).set 2 _
  have hread := key ((w.setCell ⟨R, 3, none⟩ (.int .i64 0)).setCell ⟨R, 2, none⟩ (.int .i64 0)) hR2 ((hD.set_ne (Ne.symm h2) _).set_ne (Ne.symm h2) _) ((World.cell?_setCell_far _ ⟨R, 2, none⟩ ⟨0, 0, none⟩ _ hR0).trans ((World.cell?_setCell_far _ ⟨R, 3, none⟩ ⟨0, 0, none⟩ _ hR0).trans hG)) (((Fr.refl (fun x => x = R) w).set (Or.inl rfl) _ _).set (Or.inl rfl) _ _)
  clear hR hD hR2 key
  have hcn : ∀ (sp : Option Addr) (sCap : Nat) (w : World), (Builtin.copy_ #[56, 56] 3 #[.slice (some ⟨RB, 0, none⟩) 4096 4096, .slice sp 0 sCap]).run Tryz.prog w = .ok (goInt 0) w := fun sp sCap w => run_copy_none (P := Tryz.prog) w 56 56 3 5 _ sp 4096 4096 0 sCap Tryz.underlying56 (by obtain ⟨i0, hi, hz0, hz1, hz2⟩ := info_parts info5; rw [hi]; simp [hz1]) rfl
  have hkp : (0 : Int) < k := by omega
  have hkI : (k : Int) <= 4096 := by omega
  have hkk : ((k : Int) - k) = 0 := by omega
  by_cases hk4 : 4096 = k
  ·subst hk4
   go_enter Tryz.func249, Tryz.ntmps249
   go_wp2
   refine wp_region_tail 17 [] [0, 1, 2, 3, 4, 5, 6, 7, 8, 9, 10, 11, 12, 13, 14, 15, 16] (by kernel_rfl) (by kernel_rfl) (fun _ _ _ _ _ h => h) ?_
   simp only [List.filterMap_cons, List.filterMap_nil, List.getElem?_toArray, List.getElem?_cons_zero, List.getElem?_cons_succ, List.nil_append, List.cons_append, List.drop_succ_cons, List.drop_zero]
   repeat still_step
   refine wpStill_nil ?_
   go_wp2
   refine wp_region_tail 11 [] [0, 1, 2, 3, 4, 5, 6, 7, 8, 9, 10] (by kernel_rfl) (by kernel_rfl) (fun _ _ _ _ _ h => h) ?_
   simp only [List.filterMap_cons, List.filterMap_nil, List.getElem?_toArray, List.getElem?_cons_zero, List.getElem?_cons_succ, List.nil_append, List.cons_append, List.drop_succ_cons, List.drop_zero]
   repeat still_step
   refine wpStill_nil ?_
   go_wp2
   go_quiet (fail)
   go_wp2
   refine wp_loop_rounds 1 ?_
   rw [rounds_succ]
   go_wp2
   refine wp_region_tail 15 [] [0, 1, 2, 3, 4, 5, 6, 7, 8, 9, 10, 11, 12, 13, 14] (by kernel_rfl) (by kernel_rfl) (fun _ _ _ _ _ h => h) ?_
   simp only [List.filterMap_cons, List.filterMap_nil, List.getElem?_toArray, List.getElem?_cons_zero, List.getElem?_cons_succ, List.nil_append, List.cons_append, List.drop_succ_cons, List.drop_zero]
   repeat still_step
   refine wpStill_nil ?_
   go_wp2_with (first | (go_at_call 219; refine (hread _).mono ?_; rintro e w1 ⟨rfl, m3, m4, n3, n4, hh⟩))
   refine bodyPost_ret (results_none rfl _ _ _) rfl ?_
   obtain ⟨g1, g4⟩ := hh.out
   refine ⟨rfl, ?_, (g4.set (Or.inl rfl) _ _).set (Or.inl rfl) _ _⟩
   exact (g1.set 3 _).set 4 _
  ·skip
   go_enter Tryz.func249, Tryz.ntmps249
   go_wp2
   refine wp_region_tail 17 [] [0, 1, 2, 3, 4, 5, 6, 7, 8, 9, 10, 11, 12, 13, 14, 15, 16] (by kernel_rfl) (by kernel_rfl) (fun _ _ _ _ _ h => h) ?_
   simp only [List.filterMap_cons, List.filterMap_nil, List.getElem?_toArray, List.getElem?_cons_zero, List.getElem?_cons_succ, List.nil_append, List.cons_append, List.drop_succ_cons, List.drop_zero]
   repeat still_step
   refine wpStill_nil ?_
   go_wp2
   refine wp_region_tail 11 [] [0, 1, 2, 3, 4, 5, 6, 7, 8, 9, 10] (by kernel_rfl) (by kernel_rfl) (fun _ _ _ _ _ h => h) ?_
   simp only [List.filterMap_cons, List.filterMap_nil, List.getElem?_toArray, List.getElem?_cons_zero, List.getElem?_cons_succ, List.nil_append, List.cons_append, List.drop_succ_cons, List.drop_zero]
   repeat still_step
   refine wpStill_nil ?_
   go_wp2
   go_quiet (fail)
   go_wp2
   refine wp_loop_rounds 1 ?_
   rw [rounds_succ]
   go_wp2
   refine wp_region_tail 15 [] [0, 1, 2, 3, 4, 5, 6, 7, 8, 9, 10, 11, 12, 13, 14] (by kernel_rfl) (by kernel_rfl) (fun _ _ _ _ _ h => h) ?_
   simp only [List.filterMap_cons, List.filterMap_nil, List.getElem?_toArray, List.getElem?_cons_zero, List.getElem?_cons_succ, List.nil_append, List.cons_append, List.drop_succ_cons, List.drop_zero]
   repeat still_step
   refine wpStill_nil ?_
   go_wp2_with (first | (go_at_call 219; refine (hread _).mono ?_; rintro e w1 ⟨rfl, m3, m4, n3, n4, hh⟩))
   refine bodyPost_ret (results_none rfl _ _ _) rfl ?_
   obtain ⟨g1, g4⟩ := hh.out
   refine ⟨rfl, ?_, (g4.set (Or.inl rfl) _ _).set (Or.inl rfl) _ _⟩
   exact (g1.set 3 _).set 4 _
structure Src (w : World) (R RB RD : Nat) (strm : List UInt8) : Prop where
 ex : ∃ (r k : Nat) (lb lr : Int) (cells : Array Value) (pre : List UInt8) (s : ByteArray), Blk w R (rdA RB RD r k .nilIface lb lr) 297 /\ Blk w RD (rdrA s) 79 /\ Blk w RB cells 5 /\ cells.size = 4096 /\
  r + pre.length = k /\ k <= 4096 /\ (∀ i (h : i < pre.length), cells[r + i]? = some (.int .u8 pre[i].toNat)) /\ strm = pre ++ s.data.toList /\ s.size <= 1099511627776
 ne1 : R ≠ RB
 ne2 : R ≠ RD
 ne3 : RD ≠ RB
theorem Src.keep {F : Nat -> Prop} {w w' : World} {R RB RD : Nat} {strm : List UInt8} (h : Src w R RB RD strm) (hf : Fr F w w') (h1 : ¬ F R) (h2 : ¬ F RB) (h3 : ¬ F RD) : Src w' R RB RD strm := by
 obtain ⟨⟨r, k, lb, lr, cells, pre, s, a, b, c, rest⟩, n1, n2, n3⟩ := h
 exact ⟨⟨r, k, lb, lr, cells, pre, s, a.keep hf h1, b.keep hf h3, c.keep hf h2, rest⟩, n1, n2, n3⟩
theorem Src.lt {w : World} {R RB RD : Nat} {strm : List UInt8} (h : Src w R RB RD strm) : R < w.heap.size /\ RB < w.heap.size /\ RD < w.heap.size := by
 obtain ⟨⟨r, k, lb, lr, cells, pre, s, a, b, c, rest⟩, n1, n2, n3⟩ := h
 exact ⟨a.lt, c.lt, b.lt⟩
end
end Go.Proofs.YtepbbahdhhjibaaGreatDoor
