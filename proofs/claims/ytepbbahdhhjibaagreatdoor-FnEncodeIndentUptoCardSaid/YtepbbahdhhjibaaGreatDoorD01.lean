/- own text -/
import Derived.Lib.AppendZeros
import Derived.Lib.BufferWrite
import Derived.Laws.CopyRow
import Derived.Laws.IdiomCopy
import Derived.Lib.Walk
import Derived.OwnWalk
import Derived.Defers
import Derived.Recover
import Derived.Shelf.Abstract
import Derived.Test.YtepbbahdhhjibaaGreatDoorD00
namespace Go.Proofs.YtepbbahdhhjibaaGreatDoor
set_option linter.unusedSimpArgs false
set_option linter.unusedVariables false
set_option maxHeartbeats 6400000
set_option maxRecDepth 100000
section
open Go.RowKit
theorem info5 : (Tryz.prog.info? 5).map (fun i => (i.zero, i.size, i.bytes)) = some (some (.int .u8 0), 1, 1) := by kernel_rfl
def bv (l : List UInt8) : List Value := l.map fun c => .int .u8 c.toNat
theorem bv_len (l : List UInt8) : (bv l).length = l.length := by simp [bv]
theorem bv_append (l m : List UInt8) : bv (l ++ m) = bv l ++ bv m := by simp [bv]
theorem bv_one (l : List UInt8) : ∀ v ∈ bv l, v.oneCell' = true := by
 intro v hv; simp only [bv, List.mem_map] at hv; obtain ⟨c, _, rfl⟩ := hv; rfl
theorem growSlice_catch (w : World) :
  CallsD Tryz.prog 186 #[] .returning w fun e u' w' => e = .returned (.tuple #[]) /\ u' = .returning /\ w' = w := by
 have hnn : ∀ w, (binOp .neq 20 .nilIface .nilIface).run Tryz.prog w = .ok (.bool false) w := fun w => by kernel_rfl
 refine callsD_of_wpS Tryz.func186 rfl fun c₀ cs hu => ?_
 apply wpS_seq
 apply wpS_region
 simp [wpOpsS, go_sem, recoverD, hu, hnn, Tryz.ntmps186, Exit.thenS]
 refine wpS_cond (t := false) (by simp [Act.eval, Array.replicate]) ?_
 simp only [Bool.false_eq_true, if_false]
 refine wpS_of_wp (wp_skip ?_)
 cases c₀
 simp_all [bodyPostS, results]
theorem growSlice_row (g l c n : Nat) (cur : Array Value) (w : World) (hg : w.heap[g]? = some (.cells cur 5 (0, 0))) (hcs : cur.size = c) (hlc : l <= c) (hn : 1 <= n)
  (hlim : l + n <= 140737488355328) (hc2 : c <= 140737488355328) (h1 : ∀ v ∈ cur.toList.take l, v.oneCell' = true) :
  Calls Tryz.prog 172 #[.slice (some ⟨g, 0, none⟩) l c, .int .i64 n] w fun e w' => ∃ cap2 cells, e = .returned (.slice (some ⟨w.heap.size, 0, none⟩) l cap2) /\ w'.heap[w.heap.size]? = some (.cells cells 5 (0, 0)) /\
   cells.size = cap2 /\ cells.toList.take l = cur.toList.take l /\ l + n <= cap2 /\ cap2 <= maxLen /\ Below w.heap.size w w' := by
 obtain ⟨i0, hi, hz0, hz1, hz2⟩ := info_parts info5
 have hsz1 : (Tryz.prog.info? 5).map (·.size) = some 1 := by rw [hi]; simp [hz1]
 by_cases hC : l + n < 2 * c
 ·skip
  have happ := Lib.run_append_nil_zeros (P := Tryz.prog) w 56 3 56 5 i0 (.int .u8 0) .i64 .i64 Tryz.underlying56 Tryz.underlying3 hi hz0 (2 * c) (by omega) (by omega) (by omega) (by rw [hz2]; omega)
  rw [show (((2 * c : Nat)) : Int) = 2 * (c : Int) by omega] at happ
  generalize hcap : grownCap w (2 * c) 0 5 = cap2 at happ
  have hcapge : 2 * c <= cap2 := by rw [<- hcap]; exact grownCap_ge w _ 0 5
  have hcaple : cap2 <= maxLen := by rw [<- hcap]; exact grownCap_le_maxLen w _ 0 5 (by unfold maxLen; omega)
  generalize hZ : (Builtin.zeroCells (Value.int .u8 0).cells (2 * c) ++ Builtin.zeroCells (Value.int .u8 0).cells (cap2 - (2 * c))) = Z at happ
  have hZs : Z.size = cap2 := by rw [<- hZ]; simp [size_zeroCells, Value.cells]; omega
  clear hcap hZ
  have hgl := Lib.lt_of_heap hg
  have hg1 : (w.alloc (.cells Z 5)).drew.heap[g]? = some (.cells cur 5 (0, 0)) := by show (w.alloc (.cells Z 5)).heap[g]? = _; rw [RowKit.Below.heap_alloc w _ g hgl]; exact hg
  have hxl : (cur.toList.take l).length = l := by rw [List.length_take, Array.length_toList]; omega
  have hcopy := run_copy_row (P := Tryz.prog) (w.alloc (.cells Z 5)).drew 56 56 3 5 w.heap.size 0 (2 * c) cap2 ⟨g, 0, none⟩ l c Z 5 (cur.toList.take l) Tryz.underlying56 hsz1 (heap_alloc_new w _) (by rw [hxl]; exact (Nat.min_eq_left (by omega)).symm) (Lib.cells_of_row hg1 l) (by rw [hxl]; omega) h1
  rw [hxl] at hcopy
  generalize hY : (Z.toList.take 0 ++ cur.toList.take l ++ Z.toList.drop (0 + l)).toArray = Y at hcopy
  go_enter_defers Tryz.func172, Tryz.ntmps172
  go_wp2_with (at_builtin; refine Lib.wpList_append_run _ rfl _ _ _ _ rfl _ _ rfl rfl _ _ happ ?_)
  refine leaves_cons (f := 186) (args := #[]) (by simp) (Go.Proofs.enters_of Tryz.func186 (by kernel_rfl) rfl _ _) ?_
  refine (growSlice_catch _).mono ?_
  rintro e u' w'' ⟨rfl, rfl, rfl⟩
  refine ⟨_, results_tmp rfl _ _ _, ?_⟩
  have hYl : Y.toList = cur.toList.take l ++ Z.toList.drop l := by rw [<- hY]; simp
  refine ⟨cap2, Y, rfl, setRow_heap _ _ Z Y 5 (0, 0) (heap_alloc_new w _), ?_, ?_, by omega, hcaple, ?_⟩
  ·have : Y.toList.length = cap2 := by rw [hYl, List.length_append, hxl, List.length_drop, Array.length_toList, hZs]; omega
   simpa using this
  ·rw [hYl, List.take_append_of_le_length (by rw [hxl]; exact Nat.le_refl _), List.take_of_length_le (by rw [hxl]; exact Nat.le_refl _)]
  ·exact ⟨rfl, rfl, rfl, by simp, fun k hk => by rw [setRow_other _ _ _ _ (by omega)]; exact Below.heap_alloc w _ k hk⟩
 ·skip
  have happ := Lib.run_append_nil_zeros (P := Tryz.prog) w 56 3 56 5 i0 (.int .u8 0) .i64 .i64 Tryz.underlying56 Tryz.underlying3 hi hz0 (l + n) (by omega) (by omega) (by omega) (by rw [hz2]; omega)
  rw [show (((l + n : Nat)) : Int) = (l : Int) + (n : Int) by omega] at happ
  generalize hcap : grownCap w (l + n) 0 5 = cap2 at happ
  have hcapge : l + n <= cap2 := by rw [<- hcap]; exact grownCap_ge w _ 0 5
  have hcaple : cap2 <= maxLen := by rw [<- hcap]; exact grownCap_le_maxLen w _ 0 5 (by unfold maxLen; omega)
  generalize hZ : (Builtin.zeroCells (Value.int .u8 0).cells (l + n) ++ Builtin.zeroCells (Value.int .u8 0).cells (cap2 - (l + n))) = Z at happ
  have hZs : Z.size = cap2 := by rw [<- hZ]; simp [size_zeroCells, Value.cells]; omega
  clear hcap hZ
  have hgl := Lib.lt_of_heap hg
  have hg1 : (w.alloc (.cells Z 5)).drew.heap[g]? = some (.cells cur 5 (0, 0)) := by show (w.alloc (.cells Z 5)).heap[g]? = _; rw [RowKit.Below.heap_alloc w _ g hgl]; exact hg
  have hxl : (cur.toList.take l).length = l := by rw [List.length_take, Array.length_toList]; omega
  have hcopy := run_copy_row (P := Tryz.prog) (w.alloc (.cells Z 5)).drew 56 56 3 5 w.heap.size 0 (l + n) cap2 ⟨g, 0, none⟩ l c Z 5 (cur.toList.take l) Tryz.underlying56 hsz1 (heap_alloc_new w _) (by rw [hxl]; exact (Nat.min_eq_left (by omega)).symm) (Lib.cells_of_row hg1 l) (by rw [hxl]; omega) h1
  rw [hxl] at hcopy
  generalize hY : (Z.toList.take 0 ++ cur.toList.take l ++ Z.toList.drop (0 + l)).toArray = Y at hcopy
  go_enter_defers Tryz.func172, Tryz.ntmps172
  go_wp2_with (at_builtin; refine Lib.wpList_append_run _ rfl _ _ _ _ rfl _ _ rfl rfl _ _ happ ?_)
  refine leaves_cons (f := 186) (args := #[]) (by simp) (Go.Proofs.enters_of Tryz.func186 (by kernel_rfl) rfl _ _) ?_
  refine (growSlice_catch _).mono ?_
  rintro e u' w'' ⟨rfl, rfl, rfl⟩
  refine ⟨_, results_tmp rfl _ _ _, ?_⟩
  have hYl : Y.toList = cur.toList.take l ++ Z.toList.drop l := by rw [<- hY]; simp
  refine ⟨cap2, Y, rfl, setRow_heap _ _ Z Y 5 (0, 0) (heap_alloc_new w _), ?_, ?_, by omega, hcaple, ?_⟩
  ·have : Y.toList.length = cap2 := by rw [hYl, List.length_append, hxl, List.length_drop, Array.length_toList, hZs]; omega
   simpa using this
  ·rw [hYl, List.take_append_of_le_length (by rw [hxl]; exact Nat.le_refl _), List.take_of_length_le (by rw [hxl]; exact Nat.le_refl _)]
  ·exact ⟨rfl, rfl, rfl, by simp, fun k hk => by rw [setRow_other _ _ _ _ (by omega)]; exact Below.heap_alloc w _ k hk⟩
def BufRow (w : World) (v : Value) (bs : List UInt8) : Prop :=
 (v = .slice none 0 0 /\ bs = []) \/
 ∃ g cap cells, v = .slice (some ⟨g, 0, none⟩) bs.length cap /\ w.heap[g]? = some (.cells cells 5 (0, 0)) /\ cells.size = cap /\ bs.length <= cap /\ cap <= maxLen /\ 64 <= cap /\ cells.toList.take bs.length = bv bs
def Nw (w : World) (v v' : Value) : Prop := ∀ k, v'.ownBlock = some k -> v.ownBlock = some k \/ w.heap.size <= k
theorem Nw.refl (w : World) (v : Value) : Nw w v v := fun _ h => Or.inl h
theorem Nw.new {w : World} {v v' : Value} {g : Nat} (h : v'.ownBlock = some g) (hg : w.heap.size <= g) : Nw w v v' := fun k hk => Or.inr (by rw [h] at hk; cases hk; exact hg)
theorem Nw.trans {w w1 : World} {a b c : Value} (h : Nw w a b) (k : Nw w1 b c) (hs : w.heap.size <= w1.heap.size) : Nw w a c := fun x hx => by
 rcases k x hx with h1 | h1
 ·exact h x h1
 ·exact Or.inr (by omega)
theorem BufRow.keep {F : Nat -> Prop} {w w' : World} {v : Value} {bs : List UInt8} (h : BufRow w v bs) (hf : Fr F w w') (hF : ∀ k, v.ownBlock = some k -> ¬ F k) : BufRow w' v bs := by
 rcases h with h | ⟨g, cap, cells, rfl, hg, r⟩
 ·exact Or.inl h
 ·exact Or.inr ⟨g, cap, cells, rfl, hf.heap (hF g rfl) hg, r⟩
theorem BufRow.setCell {w : World} {v : Value} {bs : List UInt8} (h : BufRow w v bs) {p : Addr} (hp : v.ownBlock ≠ some p.block) (u : Value) : BufRow (w.setCell p u) v bs := by
 rcases h with h | ⟨g, cap, cells, rfl, hg, r⟩
 ·exact Or.inl h
 ·exact Or.inr ⟨g, cap, cells, rfl, (Below.heap_setCell w p u g (fun e => hp (by simp [Value.ownBlock, e]))).trans hg, r⟩
theorem BufRow.lt {w : World} {v : Value} {bs : List UInt8} (h : BufRow w v bs) {k : Nat} (hk : v.ownBlock = some k) : k < w.heap.size := by
 rcases h with ⟨rfl, _⟩ | ⟨g, cap, cells, rfl, hg, r⟩
 ·simp [Value.ownBlock] at hk
 ·simp [Value.ownBlock] at hk; subst hk; exact (Array.getElem?_eq_some_iff.1 hg).1
theorem buf_len (B : Nat) (a : Option Addr) (l cap : Nat) (w : World) (hl : l <= 4611686018427387904) (h7 : w.cell? ⟨B, 7, none⟩ = some (.slice a l cap)) (h8 : w.cell? ⟨B, 8, none⟩ = some (.int .i64 0)) :
  Calls Tryz.prog 124 #[.pointer (some ⟨B, 7, none⟩)] w fun e w' => e = .returned (.int .i64 l) /\ ∃ n, w' = w.drewN n := by
 go_enter Tryz.func124, Tryz.ntmps124
 go_wp2
 go_quiet (fail)
 go_wp2
 go_ret
 exact ⟨rfl, _, rfl⟩
theorem buf_tryGrow_room (B g l cap m : Nat) (w : World) (hc : l + m <= cap) (hcm : cap <= 9223372036854775807) (h7 : w.cell? ⟨B, 7, none⟩ = some (.slice (some ⟨g, 0, none⟩) l cap)) (hf : w.frozen? ⟨B, 7, none⟩ = false) :
  Calls Tryz.prog 158 #[.pointer (some ⟨B, 7, none⟩), .int .i64 m] w fun e w' => e = .returned (.tuple #[.int .i64 l, .bool true]) /\ w' = w.setCell ⟨B, 7, none⟩ (.slice (some ⟨g, 0, none⟩) (l + m) cap) := by
 go_enter Tryz.func158, Tryz.ntmps158
 go_wp2
 go_ret2
 exact ⟨rfl, rfl⟩
theorem buf_tryGrow_no (B : Nat) (a : Option Addr) (l cap m : Nat) (w : World) (hlc : l <= cap) (hc : cap < l + m) (hcm : l + m <= 9223372036854775807) (h7 : w.cell? ⟨B, 7, none⟩ = some (.slice a l cap)) :
  Calls Tryz.prog 158 #[.pointer (some ⟨B, 7, none⟩), .int .i64 m] w fun e w' => e = .returned (.tuple #[.int .i64 0, .bool false]) /\ w = w' := by
 go_enter Tryz.func158, Tryz.ntmps158
 go_wp2
 go_ret2
 exact ⟨rfl, rfl⟩
theorem set_same {cs : Array Value} {i : Nat} {v : Value} (h : cs[i]? = some v) : cs.setIfInBounds i v = cs := by
 apply Array.ext_getElem?
 intro j
 rw [Array.getElem?_setIfInBounds]
 split
 ·rename_i e; subst e; rw [h]; split
  ·rfl
  ·rename_i hn; rw [Array.getElem?_eq_none (by omega)] at h; exact h
 ·rfl
theorem set_set {cs : Array Value} {i : Nat} (u v : Value) : (cs.setIfInBounds i u).setIfInBounds i v = cs.setIfInBounds i v := by
 apply Array.ext_getElem?
 intro j
 simp only [Array.getElem?_setIfInBounds, Array.size_setIfInBounds]
 split <;> simp_all
theorem get_set_ne {cs : Array Value} {i j : Nat} (h : i ≠ j) (v : Value) : (cs.setIfInBounds i v)[j]? = cs[j]? := by
 rw [Array.getElem?_setIfInBounds, if_neg h]
theorem buf_grow_nil (B m : Nat) (cs : Array Value) (T : TypeId) (w : World) (hm : m <= 64) (hm0 : 0 < m) (hb : Blk w B cs T) (h7 : cs[7]? = some (.slice none 0 0)) (h8 : cs[8]? = some (.int .i64 0)) :
  Calls Tryz.prog 159 #[.pointer (some ⟨B, 7, none⟩), .int .i64 m] w fun e w' => e = .returned (.int .i64 0) /\
   Blk w' B (cs.setIfInBounds 7 (.slice (some ⟨w.heap.size, 0, none⟩) m 64)) T /\ Blk w' w.heap.size (madeCells #[.int .u8 0] 64) 5 /\ Fr (fun x => x = B) w w' := by
 obtain ⟨i0, hi, hz0, hz1, hz2⟩ := info_parts info5
 have c7 : w.cell? ⟨B, 7, none⟩ = some (.slice none 0 0) := (hb.cell 7).trans h7
 have c8 : w.cell? ⟨B, 8, none⟩ = some (.int .i64 0) := (hb.cell 8).trans h8
 have f7 := hb.fz 7
 have hmk : ∀ w1 : World, (Instr.makeSlice 56 (.int .i64 m) (.int .i64 64)).run Tryz.prog w1 = .ok (.slice (some ⟨w1.heap.size, 0, none⟩) m 64) (w1.alloc (.cells (madeCells #[.int .u8 0] 64) 5)) := by
  intro w1
  have := run_make (P := Tryz.prog) w1 56 5 i0 (.int .u8 0) Tryz.underlying56 hi hz0 .i64 .i64 (m : Int) 64 (by omega) (by omega) (by rw [hz2]; omega) (by omega)
  rw [hz1] at this
  exact this
 have hno : ∀ w1 : World, w1.cell? ⟨B, 7, none⟩ = some (.slice none 0 0) -> Calls Tryz.prog 158 #[.pointer (some ⟨B, 7, none⟩), .int .i64 m] w1 fun e w' => e = .returned (.tuple #[.int .i64 0, .bool false]) /\ w1 = w' := fun w1 h => buf_tryGrow_no B none 0 0 m w1 (by omega) (by omega) (by omega) h
 have heq := fun (w : World) (a : Option Addr) (l c : Nat) => Lib.run_eql_slice_nil (P := Tryz.prog) w 56 5 a l c 0 0 Tryz.underlying56
 have hB : B < w.heap.size := hb.lt
 go_enter Tryz.func159, Tryz.ntmps159
 go_wp2_with (first | (go_at_call 124; refine (buf_len B none 0 0 _ (by omega) c7 c8).mono ?_; rintro e w1 ⟨rfl, n, hw1⟩; have hB1 : B < w1.heap.size := by rw [hw1]; exact hB
                       have h71 : w1.cell? ⟨B, 7, none⟩ = some (.slice none 0 0) := by rw [hw1]; exact c7
                       have h81 : w1.cell? ⟨B, 8, none⟩ = some (.int .i64 0) := by rw [hw1]; exact c8
                       have hf1 : w1.frozen? ⟨B, 7, none⟩ = false := by rw [hw1]; exact f7
                       have hs1 := zz hw1; clear hw1) | (go_at_call 158; refine (hno _ h71).mono ?_; rintro e w' ⟨rfl, rfl⟩))
 go_ret
 have hw1 := hs1.out
 subst hw1
 refine ⟨rfl, ?_, ?_, ?_⟩
 ·exact (Blk.set (w := w.drewN n) hb 7 _).alloc _
 ·have := Blk.new ((w.drewN n).setCell ⟨B, 7, none⟩ (.slice (some ⟨(w.drewN n).heap.size, 0, none⟩) m 64)) (madeCells #[.int .u8 0] 64) 5
  simpa [World.setCell] using this
 ·exact (((Fr.refl (fun x => x = B) w).drewN n).set (Or.inl rfl) _ _).alloc _
theorem buf_grow_row (B g l cap m : Nat) (cur cs : Array Value) (T : TypeId) (w : World) (hl0 : ((l : Int) == 0) = false) (hm : m <= 64) (hm0 : 0 < m) (hl : l <= 46116860184273) (hlc : l <= cap) (hc : cap < l + m) (hb : Blk w B cs T) (h7 : cs[7]? = some (.slice (some ⟨g, 0, none⟩) l cap)) (h8 : cs[8]? = some (.int .i64 0))
  (hg : w.heap[g]? = some (.cells cur 5 (0, 0))) (hcs : cur.size = cap) (h1 : ∀ v ∈ cur.toList.take l, v.oneCell' = true) :
  Calls Tryz.prog 159 #[.pointer (some ⟨B, 7, none⟩), .int .i64 m] w fun e w' => e = .returned (.int .i64 l) /\
   ∃ g2 cap2 cells, Blk w' B (cs.setIfInBounds 7 (.slice (some ⟨g2, 0, none⟩) (l + m) cap2)) T /\ Blk w' g2 cells 5 /\ w.heap.size <= g2 /\
    cells.size = cap2 /\ cells.toList.take l = cur.toList.take l /\ l + m <= cap2 /\ cap2 <= maxLen /\ Fr (fun x => x = B) w w' := by
 have c7 : w.cell? ⟨B, 7, none⟩ = some (.slice (some ⟨g, 0, none⟩) l cap) := (hb.cell 7).trans h7
 have c8 : w.cell? ⟨B, 8, none⟩ = some (.int .i64 0) := (hb.cell 8).trans h8
 have f7 := hb.fz 7
 have f8 := hb.fz 8
 have hno : ∀ w1 : World, w1.cell? ⟨B, 7, none⟩ = some (.slice (some ⟨g, 0, none⟩) l cap) -> Calls Tryz.prog 158 #[.pointer (some ⟨B, 7, none⟩), .int .i64 m] w1 fun e w' => e = .returned (.tuple #[.int .i64 0, .bool false]) /\ w1 = w' := fun w1 h => buf_tryGrow_no B (some ⟨g, 0, none⟩) l cap m w1 hlc hc (by omega) h
 have heq := fun (w : World) (a : Option Addr) (l c : Nat) => Lib.run_eql_slice_nil (P := Tryz.prog) w 56 5 a l c 0 0 Tryz.underlying56
 have hB : B < w.heap.size := hb.lt
 go_enter Tryz.func159, Tryz.ntmps159
 go_wp2_with (first | (go_at_call 124; refine (buf_len B _ l cap _ (by omega) c7 c8).mono ?_; rintro e w1 ⟨rfl, n, hw1⟩; have hB1 : B < w1.heap.size := by rw [hw1]; exact hB
                       have h71 : w1.cell? ⟨B, 7, none⟩ = some (.slice (some ⟨g, 0, none⟩) l cap) := by rw [hw1]; exact c7
                       have h81 : w1.cell? ⟨B, 8, none⟩ = some (.int .i64 0) := by rw [hw1]; exact c8
                       have hf1 : w1.frozen? ⟨B, 7, none⟩ = false := by rw [hw1]; exact f7
                       have hs1 := zz hw1; clear hw1) | (go_at_call 158; refine (hno _ h71).mono ?_; rintro e w' ⟨rfl, rfl⟩))
 have hg1 : w1.drew.heap[g]? = some (.cells cur 5 (0, 0)) := by have hw1 := hs1.out; rw [hw1]; exact hg
 have hF1 : Fr (fun x => x = B) w w1 := by have hw1 := hs1.out; rw [hw1]; exact (Fr.refl _ w).drewN n
 have hb1 : Blk w1 B cs T := by have hw1 := hs1.out; rw [hw1]; exact hb
 have hF1 := zz hF1
 have hb1 := zz hb1
 have f81 : w1.frozen? ⟨B, 8, none⟩ = false := hb1.out.fz 8
 have hwm : IntKind.i64.wrap (m : Int) = m := IntWalk.i64_in _ (by omega)
 clear hs1
 refine wp_region_tail 16 [0] [1, 2, 3, 4, 5, 6, 7, 8, 9, 10, 11, 12, 13, 14, 15] (by kernel_rfl) (by kernel_rfl) (fun _ _ _ _ _ h => h) ?_
 simp only [List.filterMap_cons, List.filterMap_nil, List.getElem?_toArray, List.getElem?_cons_zero, List.getElem?_cons_succ, List.nil_append, List.cons_append, List.drop_succ_cons, List.drop_zero]
 repeat still_step
 refine wpStill_nil ?_
 go_wp2_with (first | (go_at_call 172; (with_reducible refine (growSlice_row g l cap m cur _ hg1 hcs hlc (by omega) (by omega) (by omega) h1).mono ?_); rintro e w2 ⟨cap2, cells, rfl, hnew, hsz, htk, hle, hcm, hbel⟩; have k7 := (hbel.cell (p := ⟨B, 7, none⟩) hB1).trans h71; have k8 := (hbel.cell (p := ⟨B, 8, none⟩) hB1).trans h81; have q7 := (hbel.frozen (p := ⟨B, 7, none⟩) hB1).trans hf1; have q8 := (hbel.frozen (p := ⟨B, 8, none⟩) hB1).trans f81))
 go_ret
 have hb2 : Blk w2 B cs T := (hbel.block B hB1).trans hb1.out
 have F2 : Fr (fun x => x = B) w w2 := hF1.out.drew.old (Below.toOld hbel)
 have hne : w1.heap.size ≠ B := by omega
 refine ⟨rfl, w1.heap.size, cap2, cells, ?_, ?_, hF1.out.size, hsz, htk, hle, hcm, ?_⟩
 ·have := ((hb2.set 7 (.slice (some ⟨w1.heap.size, 0, none⟩) l cap2)).set 8 (.int .i64 0)).set 7 (.slice (some ⟨w1.heap.size, 0, none⟩) (l + m) cap2)
  rw [set_same (i := 8) (by rw [get_set_ne (by decide)]; exact h8), set_set] at this
  exact this
 ·exact Blk.set_ne (Blk.set_ne (Blk.set_ne (show Blk w2 w1.heap.size cells 5 from hnew) hne _) hne _) hne _
 ·exact ((F2.set (Or.inl rfl) _ _).set (Or.inl rfl) _ _).set (Or.inl rfl) _ _
end
section
open Go.RowKit
theorem BufRow.mk {w : World} {bs : List UInt8} {g cap : Nat} {cells : Array Value} (hg : Blk w g cells 5) (hcs : cells.size = cap) (hle : bs.length <= cap) (hcm : cap <= maxLen) (h0 : 64 <= cap) (ht : cells.toList.take bs.length = bv bs) :
  BufRow w (.slice (some ⟨g, 0, none⟩) bs.length cap) bs := Or.inr ⟨g, cap, cells, rfl, hg, hcs, hle, hcm, h0, ht⟩
theorem bv_set {cells : Array Value} {bs : List UInt8} {c : UInt8} (h : cells.toList.take bs.length = bv bs) (hl : bs.length < cells.size) :
  (cells.setIfInBounds bs.length (.int .u8 c.toNat)).toList.take (bs ++ [c]).length = bv (bs ++ [c]) := by
 rw [Array.toList_setIfInBounds, List.length_append, List.length_singleton, List.take_add_one, List.take_set_of_le (Nat.le_refl _), h, bv_append]
 congr 1
 rw [List.getElem?_set_self (by simpa using hl)]
 rfl
theorem buf_writeByte (B : Nat) (cs : Array Value) (T : TypeId) (v : Value) (bs : List UInt8) (c : UInt8) (w : World) (hb : Blk w B cs T) (h7 : cs[7]? = some v) (h8 : cs[8]? = some (.int .i64 0))
  (h9 : ∃ x, cs[9]? = some x) (hr : BufRow w v bs) (hne : v.ownBlock ≠ some B) (hl : bs.length <= 1099511627776) :
  Calls Tryz.prog 119 #[.pointer (some ⟨B, 7, none⟩), .int .u8 c.toNat] w fun e w' => e = .returned .nilIface /\
   ∃ v', Blk w' B ((cs.setIfInBounds 9 (.int .i8 0)).setIfInBounds 7 v') T /\ BufRow w' v' (bs ++ [c]) /\ Fr (fun x => x = B \/ v.ownBlock = some x) w w' /\ Nw w v v' /\ ∀ k, v.ownBlock = some k -> ∀ j, j < bs.length -> w'.cell? ⟨k, j, none⟩ = w.cell? ⟨k, j, none⟩ := by
 obtain ⟨x9, h9⟩ := h9
 have c7 : w.cell? ⟨B, 7, none⟩ = some v := (hb.cell 7).trans h7
 have c9 : w.cell? ⟨B, 9, none⟩ = some x9 := (hb.cell 9).trans h9
 have f7 := hb.fz 7
 have f9 := hb.fz 9
 have hB : B < w.heap.size := hb.lt
 have c79 : (w.setCell ⟨B, 9, none⟩ (.int .i8 0)).cell? ⟨B, 7, none⟩ = some v := ((hb.set 9 _).cell 7).trans ((get_set_ne (by decide) _).trans h7)
 rcases hr with ⟨rfl, rfl⟩ | ⟨g, cap, cells, rfl, hg, hcs, hle, hcm, h0, htk⟩
 ·
  have hw9 : (w.setCell ⟨B, 9, none⟩ (.int .i8 0)).heap.size = w.heap.size := by simp [World.setCell]
  have hc : Calls Tryz.prog 158 #[.pointer (some ⟨B, 7, none⟩), .int .i64 1] (w.setCell ⟨B, 9, none⟩ (.int .i8 0)) _ := buf_tryGrow_no B none 0 0 1 _ (by omega) (by omega) (by omega) c79
  have hgr : Calls Tryz.prog 159 #[.pointer (some ⟨B, 7, none⟩), .int .i64 1] (w.setCell ⟨B, 9, none⟩ (.int .i8 0)) _ := buf_grow_nil B 1 _ T _ (by omega) (by omega) (hb.set 9 _) (by rw [get_set_ne (by decide)]; exact h7) (by rw [get_set_ne (by decide)]; exact h8)
  rw [hw9] at hgr
  have hgr2 := hgr.mono (R' := fun e w1 => e = .returned (.int .i64 0) /\ w1.cell? ⟨B, 7, none⟩ = some (.slice (some ⟨w.heap.size, 0, none⟩) 1 64) /\ w1.cell? ⟨w.heap.size, 0, none⟩ = some (.int .u8 0) /\ w1.frozen? ⟨w.heap.size, 0, none⟩ = false /\
    Hid (Blk w1 B ((cs.setIfInBounds 9 (.int .i8 0)).setIfInBounds 7 (.slice (some ⟨w.heap.size, 0, none⟩) 1 64)) T /\ Blk w1 w.heap.size (madeCells #[.int .u8 0] 64) 5 /\ Fr (fun x => x = B) (w.setCell ⟨B, 9, none⟩ (.int .i8 0)) w1)) (by
   rintro e w1 ⟨h1, hb1, hn1, hF1⟩
   refine ⟨h1, ?_, ?_, hn1.fz 0, hb1, hn1, hF1⟩
   ·rw [hb1.cell 7, Array.getElem?_setIfInBounds, if_pos rfl, if_pos (by simpa using (Array.getElem?_eq_some_iff.1 h7).1)]
   ·rw [hn1.cell 0]; simp [madeCells])
  clear hgr hw9
  go_enter Tryz.func119, Tryz.ntmps119
  go_wp2_with (first | (go_at_call 158; refine hc.mono ?_; rintro e w1 ⟨rfl, rfl⟩) | (go_at_call 159; refine hgr2.mono ?_; rintro e w1 ⟨rfl, k7, kn, kf, hh⟩))
  go_ret
  obtain ⟨hb1, hn1, hF1⟩ := hh.out
  have hne2 : w.heap.size ≠ B := by omega
  refine ⟨rfl, .slice (some ⟨w.heap.size, 0, none⟩) 1 64, ?_, ?_, ?_, ?_, fun k hk => by simp [Value.ownBlock] at hk⟩
  ·exact hb1.set_ne (Ne.symm hne2) _
  ·have := BufRow.mk (cap := 64) (bs := [c]) (hn1.set 0 (.int .u8 c.toNat)) (by simp [madeCells]) (by simp) (by unfold maxLen; omega) (by omega) (bv_set (bs := []) (cells := madeCells #[.int .u8 0] 64) (c := c) (by simp [bv]) (by simp [madeCells]))
   exact this
  ·refine Fr.set (Fr.trans ((Fr.refl (fun x => x = B \/ _) w).set (Or.inl (Or.inl rfl)) 9 _) hF1 ?_) (Or.inr (Nat.le_refl _)) _ _
   intro x hx; exact Or.inl (Or.inl hx)
  ·exact Nw.new (g := w.heap.size) rfl (Nat.le_refl _)
 ·have hgB : g ≠ B := fun e => hne (by simp [Value.ownBlock, e])
  have hgl : g < w.heap.size := (Array.getElem?_eq_some_iff.1 hg).1
  by_cases hroom : bs.length < cap
  ·
   have hgc : ∃ u, w.cell? ⟨g, bs.length, none⟩ = some u := ⟨cells[bs.length]'(by omega), by rw [(show Blk w g cells 5 from hg).cell]; simp [hcs, hroom]⟩
   obtain ⟨u, hgc⟩ := hgc
   have fg := (show Blk w g cells 5 from hg).fz bs.length
   have hg' := zz hg
   have hmax : cap <= 9223372036854775807 := by unfold maxLen at hcm; omega
   clear hg
   have hc : Calls Tryz.prog 158 #[.pointer (some ⟨B, 7, none⟩), .int .i64 1] (w.setCell ⟨B, 9, none⟩ (.int .i8 0)) _ := buf_tryGrow_room B g bs.length cap 1 _ (by omega) hmax c79 ((hb.set 9 _).fz 7)
   go_enter Tryz.func119, Tryz.ntmps119
   go_wp2_with (first | (go_at_call 158; refine hc.mono ?_; rintro e w1 ⟨rfl, rfl⟩))
   go_ret
   refine ⟨rfl, .slice (some ⟨g, 0, none⟩) (bs.length + 1) cap, ?_, ?_, ?_, ?_, ?_⟩
   ·exact ((hb.set 9 _).set 7 _).set_ne (Ne.symm hgB) _
   ·have hg1 : Blk w g cells 5 := hg'.out
    have hg2 := ((hg1.set_ne (p := ⟨B, 9, none⟩) hgB (.int .i8 0)).set_ne (p := ⟨B, 7, none⟩) hgB (.slice (some ⟨g, 0, none⟩) (bs.length + 1) cap)).set bs.length (.int .u8 c.toNat)
    have := BufRow.mk (bs := bs ++ [c]) hg2 (by simpa using hcs) (by simp; omega) hcm h0 (bv_set htk (by omega))
    simpa using this
   ·exact ((((Fr.refl _ w).set (Or.inl (Or.inl rfl)) _ _).set (Or.inl (Or.inl rfl)) _ _).set (Or.inl (Or.inr rfl)) _ _)
   ·intro k hk; exact Or.inl hk
   ·intro k hk j hj
    have hkg : g = k := by simpa [Value.ownBlock] using hk
    subst hkg
    have hg1 : Blk w g cells 5 := hg'.out
    have hg2 := ((hg1.set_ne (p := ⟨B, 9, none⟩) hgB (.int .i8 0)).set_ne (p := ⟨B, 7, none⟩) hgB (.slice (some ⟨g, 0, none⟩) (bs.length + 1) cap)).set bs.length (.int .u8 c.toNat)
    rw [hg2.cell, hg1.cell]
    exact get_set_ne (by omega) _
  ·
   have hw9 : (w.setCell ⟨B, 9, none⟩ (.int .i8 0)).heap.size = w.heap.size := by simp [World.setCell]
   have hg1 : (w.setCell ⟨B, 9, none⟩ (.int .i8 0)).heap[g]? = some (.cells cells 5 (0, 0)) := (show Blk w g cells 5 from hg).set_ne (p := ⟨B, 9, none⟩) hgB _
   have hmax : cap <= 9223372036854775807 := by unfold maxLen at hcm; omega
   have hc : Calls Tryz.prog 158 #[.pointer (some ⟨B, 7, none⟩), .int .i64 1] (w.setCell ⟨B, 9, none⟩ (.int .i8 0)) _ := buf_tryGrow_no B (some ⟨g, 0, none⟩) bs.length cap 1 _ hle (by omega) (by omega) c79
   have hgr : Calls Tryz.prog 159 #[.pointer (some ⟨B, 7, none⟩), .int .i64 1] (w.setCell ⟨B, 9, none⟩ (.int .i8 0)) _ := buf_grow_row B g bs.length cap 1 cells _ T _ (by rw [beq_eq_false_iff_ne]; omega) (by omega) (by omega) (by omega) hle (by omega) (hb.set 9 _) (by rw [get_set_ne (by decide)]; exact h7) (by rw [get_set_ne (by decide)]; exact h8) hg1 hcs (by rw [htk]; exact bv_one _)
   rw [hw9] at hgr
   have hgr2 := hgr.mono (R' := fun e w1 => e = .returned (.int .i64 bs.length) /\ ∃ g2 cap2 u, w1.cell? ⟨B, 7, none⟩ = some (.slice (some ⟨g2, 0, none⟩) (bs.length + 1) cap2) /\ w1.cell? ⟨g2, bs.length, none⟩ = some u /\ w1.frozen? ⟨g2, bs.length, none⟩ = false /\
     Hid (∃ cells2, Blk w1 B ((cs.setIfInBounds 9 (.int .i8 0)).setIfInBounds 7 (.slice (some ⟨g2, 0, none⟩) (bs.length + 1) cap2)) T /\ Blk w1 g2 cells2 5 /\ w.heap.size <= g2 /\
    cells2.size = cap2 /\ cells2.toList.take bs.length = cells.toList.take bs.length /\ bs.length + 1 <= cap2 /\ cap2 <= maxLen /\ Fr (fun x => x = B) (w.setCell ⟨B, 9, none⟩ (.int .i8 0)) w1)) (by
    rintro e w1 ⟨h1, g2, cap2, cells2, hb1, hn1, hge, hs2, ht2, hl2, hm2, hF1⟩
    refine ⟨h1, g2, cap2, cells2[bs.length]'(by omega), ?_, ?_, hn1.fz _, cells2, hb1, hn1, hge, hs2, ht2, hl2, hm2, hF1⟩
    ·rw [hb1.cell 7, Array.getElem?_setIfInBounds, if_pos rfl, if_pos (by simpa using (Array.getElem?_eq_some_iff.1 h7).1)]
    ·rw [hn1.cell]; simp)
   have hg' := zz hg
   have htk' := zz htk
   clear hgr hw9 hg1 hg htk
   go_enter Tryz.func119, Tryz.ntmps119
   go_wp2_with (first | (go_at_call 158; refine hc.mono ?_; rintro e w1 ⟨rfl, rfl⟩) | (go_at_call 159; refine hgr2.mono ?_; rintro e w1 ⟨rfl, g2, cap2, u, k7, kn, kf, hh⟩))
   go_ret
   obtain ⟨cells2, hb1, hn1, hge, hs2, ht2, hl2, hm2, hF1⟩ := hh.out
   have hne2 : g2 ≠ B := by omega
   refine ⟨rfl, .slice (some ⟨g2, 0, none⟩) (bs.length + 1) cap2, ?_, ?_, ?_, ?_, ?_⟩
   ·exact hb1.set_ne (Ne.symm hne2) _
   ·have := BufRow.mk (bs := bs ++ [c]) (hn1.set bs.length (.int .u8 c.toNat)) (by simpa using hs2) (by simp; omega) hm2 (by omega) (bv_set (ht2.trans htk'.out) (by omega))
    simpa using this
   ·refine Fr.set (Fr.trans ((Fr.refl (fun x => x = B \/ _) w).set (Or.inl (Or.inl rfl)) 9 _) hF1 ?_) (Or.inr hge) _ _
    intro x hx; exact Or.inl (Or.inl hx)
   ·exact Nw.new (g := g2) rfl hge
   ·intro k hk j hj
    have hkg : g = k := by simpa [Value.ownBlock] using hk
    subst hkg
    have hg1 : Blk w g cells 5 := hg'.out
    have hg2 := ((hg1.set_ne (p := ⟨B, 9, none⟩) hgB (.int .i8 0)).keep hF1 hgB).set_ne (p := ⟨g2, bs.length, none⟩) (by show g ≠ g2; omega) (.int .u8 c.toNat)
    rw [hg2.cell, hg1.cell]
end
end Go.Proofs.YtepbbahdhhjibaaGreatDoor
