/- own text: elements without texts that are encoded with an indent stand on lines of their own, and are read back as they are beside white space: the law FnEncodeIndent returns true up to the given bulk; no condition of this claim's own -/
import Derived.Test.YtepbbahdhhjibaaGreatDoorProg
import Derived.WalkKit
import Derived.WalkSpells
import Derived.WalkLawsBesides
import Derived.BigQuiet
import Derived.Deep.RegionHeld3
import Derived.Deep.RegionLaw
import Derived.Deep.AppendLies
import Derived.Lib.Hide
import Derived.Lib.Buffer
import Derived.StillTailTactics
namespace Go.Proofs.YtepbbahdhhjibaaGreatDoor
set_option linter.unusedSimpArgs false
set_option linter.unusedVariables false
set_option maxHeartbeats 200000
set_option maxRecDepth 512
open Go.RowKit in
theorem zz {p : Prop} (h : p) : Hid p := Lib.hid h
section
open Go.RowKit
structure Fr (F : Nat -> Prop) (w w' : World) : Prop where
 os : w'.os = w.os
 tape : w'.tape = w.tape
 output : w'.output = w.output
 size : w.heap.size <= w'.heap.size
 block : ∀ k, k < w.heap.size -> ¬ F k -> w'.heap[k]? = w.heap[k]?
abbrev Old (w w' : World) : Prop := Fr (fun _ => False) w w'
theorem Fr.refl (F : Nat -> Prop) (w : World) : Fr F w w := ⟨rfl, rfl, rfl, Nat.le_refl _, fun _ _ _ => rfl⟩
theorem Fr.trans {F G : Nat -> Prop} {a b c : World} (h : Fr F a b) (k : Fr G b c) (hG : ∀ x, G x -> F x \/ a.heap.size <= x) : Fr F a c :=
 ⟨k.os.trans h.os, k.tape.trans h.tape, k.output.trans h.output, Nat.le_trans h.size k.size,
  fun i hi hF => (k.block i (Nat.lt_of_lt_of_le hi h.size) (fun hg => by rcases hG i hg with h1 | h1 <;> first | exact hF h1 | omega)).trans (h.block i hi hF)⟩
theorem Fr.mono {F G : Nat -> Prop} {a b : World} (h : Fr F a b) (hG : ∀ x, F x -> G x \/ a.heap.size <= x) : Fr G a b :=
 ⟨h.os, h.tape, h.output, h.size, fun i hi hg => h.block i hi (fun hf => by rcases hG i hf with h1 | h1 <;> first | exact hg h1 | omega)⟩
theorem Fr.old {F : Nat -> Prop} {a b c : World} (h : Fr F a b) (k : Old b c) : Fr F a c := h.trans k (fun _ h => h.elim)
theorem Fr.of_old {F : Nat -> Prop} {a b : World} (h : Old a b) : Fr F a b := h.mono (fun _ h => h.elim)
theorem Fr.set {F : Nat -> Prop} {a w : World} (h : Fr F a w) {b : Nat} (hb : F b \/ a.heap.size <= b) (i : Nat) (v : Value) : Fr F a (w.setCell ⟨b, i, none⟩ v) :=
 h.trans (G := fun x => x = b) ⟨rfl, rfl, rfl, by simp [World.setCell], fun k _ hk => Below.heap_setCell _ _ _ _ hk⟩ (fun x hx => by subst hx; exact hb)
theorem Fr.alloc {F : Nat -> Prop} {a w : World} (h : Fr F a w) (o : Obj) : Fr F a (w.alloc o) :=
 h.old ⟨rfl, rfl, rfl, by simp, fun k hk _ => Below.heap_alloc _ _ _ hk⟩
theorem Fr.drew {F : Nat -> Prop} {a w : World} (h : Fr F a w) : Fr F a w.drew := ⟨h.os, h.tape, h.output, h.size, h.block⟩
theorem Fr.drewN {F : Nat -> Prop} {a w : World} (h : Fr F a w) (n : Nat) : Fr F a (w.drewN n) := ⟨h.os, h.tape, h.output, h.size, h.block⟩
theorem Fr.grown {F : Nat -> Prop} {a w w' : World} {row : Option Nat} (h : Fr F a w) (hg : w.grownBy w' row) (hr : ∀ k, row = some k -> F k \/ a.heap.size <= k) : Fr F a w' :=
 h.trans (G := fun x => row = some x) ⟨hg.os, hg.tape, hg.output, hg.size, fun k hk hne => hg.block k hk (fun e => hne e.symm)⟩ (fun x hx => hr x hx)
theorem Fr.cell {F : Nat -> Prop} {w w' : World} (h : Fr F w w') {p : Addr} {v : Value} (hF : ¬ F p.block) (hc : w.cell? p = some v) : w'.cell? p = some v :=
 (World.cell?_of_block (w := w) (h.block p.block (World.block_lt_of_cell? w p hc) hF)).trans hc
theorem Old.cell {w w' : World} (h : Old w w') {p : Addr} {v : Value} (hc : w.cell? p = some v) : w'.cell? p = some v := Fr.cell h (fun h => h) hc
theorem Fr.heap {F : Nat -> Prop} {w w' : World} (h : Fr F w w') {b : Nat} {o : Obj} (hF : ¬ F b) (hc : w.heap[b]? = some o) : w'.heap[b]? = some o :=
 (h.block b (Array.getElem?_eq_some_iff.1 hc).1 hF).trans hc
theorem Fr.below {F : Nat -> Prop} {w w' : World} {B : Nat} (h : Fr F w w') (hB : B <= w.heap.size) (hF : ∀ x, F x -> B <= x) : Below B w w' :=
 ⟨h.os, h.tape, h.output, h.size, fun k hk => h.block k (by omega) (fun hf => by have := hF k hf; omega)⟩
theorem Old.below {w w' : World} (h : Old w w') : Below w.heap.size w w' := Fr.below h (Nat.le_refl _) (fun _ h => h.elim)
theorem Below.toOld {w w' : World} (h : Below w.heap.size w w') : Old w w' := ⟨h.os, h.tape, h.output, h.size, fun k hk _ => h.block k hk⟩
def Blk (w : World) (b : Nat) (cs : Array Value) (T : TypeId) : Prop := w.heap[b]? = some (.cells cs T (0, 0))
theorem Blk.cell {w : World} {b : Nat} {cs : Array Value} {T : TypeId} (h : Blk w b cs T) (i : Nat) : w.cell? ⟨b, i, none⟩ = cs[i]? := by
 unfold Blk at h; simp [World.cell?, h]
theorem Blk.fz {w : World} {b : Nat} {cs : Array Value} {T : TypeId} (h : Blk w b cs T) (i : Nat) : w.frozen? ⟨b, i, none⟩ = false := by
 unfold Blk at h; simp [World.frozen?, h]
theorem Blk.lt {w : World} {b : Nat} {cs : Array Value} {T : TypeId} (h : Blk w b cs T) : b < w.heap.size := (Array.getElem?_eq_some_iff.1 h).1
theorem Blk.set {w : World} {b : Nat} {cs : Array Value} {T : TypeId} (h : Blk w b cs T) (i : Nat) (v : Value) : Blk (w.setCell ⟨b, i, none⟩ v) b (cs.setIfInBounds i v) T := by
 unfold Blk at h ⊢; simp only [World.setCell, Array.getElem?_modify]; simp [h]
theorem Blk.set_ne {w : World} {b : Nat} {cs : Array Value} {T : TypeId} (h : Blk w b cs T) {p : Addr} (hb : b ≠ p.block) (v : Value) : Blk (w.setCell p v) b cs T :=
 (Below.heap_setCell w p v b hb).trans h
theorem Blk.alloc {w : World} {b : Nat} {cs : Array Value} {T : TypeId} (h : Blk w b cs T) (o : Obj) : Blk (w.alloc o) b cs T :=
 (Below.heap_alloc w o b h.lt).trans h
theorem Blk.new (w : World) (cs : Array Value) (T : TypeId) : Blk (w.alloc (.cells cs T)) w.heap.size cs T := Go.heap_alloc_new w _
theorem Blk.keep {F : Nat -> Prop} {w w' : World} {b : Nat} {cs : Array Value} {T : TypeId} (h : Blk w b cs T) (hf : Fr F w w') (hF : ¬ F b) : Blk w' b cs T := hf.heap hF h
theorem run_append_fresh {P : Program} {w : World} (t ty e : TypeId) (i : TypeInfo) (z : Value) (size bytes : Nat) (ht : P.underlying t = some (.slice e)) (hi : P.info? e = some i) (hz : i.zero = some z)
  (hsize : i.size = size) (hby : i.bytes = bytes) (hzs : z.cells.size = size) (hsz : 0 < size)
  (v : Value) (n : Nat) (xs : List Value) (hown : w.ownsRow 0 e size v n xs)
  (a : Addr) (m c : Nat) (news : List Value) (hl : news.length = m * size) (hm : 0 < m) (hnews : ∀ j u, news[j]? = some u -> w.cell? (a.add j) = some u) (h1 : ∀ u ∈ news, u.oneCell' = true)
  (h63 : n + m <= maxLen) (hbytes : (n + m) * bytes <= 140737488355328) :
  ∃ g' c' w', (Builtin.append_ #[t, t] ty #[v, .slice (some a) m c]).run P w = .ok (.slice (some ⟨g', 0, none⟩) (n + m) c') w' /\ w'.ownsRow 0 e size (.slice (some ⟨g', 0, none⟩) (n + m) c') (n + m) (xs ++ news) /\
   w.grownBy w' v.ownBlock /\ (v.ownBlock = some g' \/ w.heap.size <= g') := by
 obtain ⟨v', w', hr, ho, hg, _⟩ := run_append_own (P := P) w 0 t ty e i z size bytes ht hi hz hsize hby hzs hsz v n xs hown a m c news hl hnews h1 h63 hbytes (Nat.zero_le _)
 rcases ho.2 with ⟨rfl, hn0⟩ | ⟨g', c', cur', rfl, _, hgg, hle, hcm, hcs, htk⟩
 ·omega
 refine ⟨g', c', w', hr, ho, hg, ?_⟩
 rcases hown.2 with ⟨rfl, rfl⟩ | ⟨g, cap, cur, rfl, _, hgb, hnc, hcm0, hcs0, htake⟩
 ·obtain ⟨v2, w2, hr2, ho2, _, _⟩ := run_append_own (P := P) w w.heap.size t ty e i z size bytes ht hi hz hsize hby hzs hsz (.slice none 0 0) 0 [] (World.ownsRow_nil w _ e size) a m c news hl hnews h1 h63 hbytes (Nat.le_refl _)
  rw [hr2] at hr
  obtain ⟨rfl, rfl⟩ := Result.ok.inj hr
  right
  have := (ho2.lt g' rfl).1
  exact this
 ·by_cases hroom : n + m <= cap
  ·have hfit : n * i.size + news.length <= cur.size := by rw [hl, hsize, hcs0, <- Nat.add_mul]; exact Nat.mul_le_mul_right _ hroom
   have hr2 := run_append_room (P := P) w t ty e i ht hi g n cap cur hgb a m c news (by rw [hsize]; exact hl) hnews h1 hroom hfit
   rw [hr2] at hr
   obtain ⟨h3, _⟩ := Result.ok.inj hr
   left
   simp only [Value.slice.injEq, Option.some.injEq, Addr.mk.injEq] at h3
   simp [Value.ownBlock, h3.1.1]
  ·have hx : ∀ j u, xs[j]? = some u -> w.cell? ((⟨g, 0, none⟩ : Addr).add j) = some u := hown.cells (g := g) rfl
   have hr2 := run_append_grow (P := P) w t ty e i z ht hi hz ⟨g, 0, none⟩ n cap xs (by rw [hsize]; exact hown.1) hx a m c news (by rw [hsize]; exact hl) hnews (by omega) (by unfold maxLen at h63; omega) (growslice_fits (by omega) (by rw [hby]; exact hbytes))
   rw [hr2] at hr
   obtain ⟨h3, _⟩ := Result.ok.inj hr
   right
   simp only [Value.slice.injEq, Option.some.injEq, Addr.mk.injEq] at h3
   omega
section
variable {P : Program} {ops : Array Oper} {o : Oper} {a : Act} {w : World} {Q : Exit -> Act -> World -> Prop}
theorem wp_append_fresh {K : Act -> World -> Prop} (s x : Operand) (t : TypeId) (hop : o.op = Op.call { callee := Callee.builtin Builtin.append, args := #[s, x], argTypes := #[t, t] })
  (e : TypeId) (i : TypeInfo) (z : Value) (size bytes : Nat) (ht : P.underlying t = some (.slice e)) (hi : P.info? e = some i) (hz : i.zero = some z)
  (hsize : i.size = size) (hby : i.bytes = bytes) (hzs : z.cells.size = size) (hsz : 0 < size)
  (v : Value) (n : Nat) (xs : List Value) (hs : a.eval s = v) (hown : w.ownsRow 0 e size v n xs)
  (ad : Addr) (m c : Nat) (news : List Value) (hx : a.eval x = .slice (some ad) m c) (hl : news.length = m * size) (hm : 0 < m) (hnews : ∀ j u, news[j]? = some u -> w.cell? (ad.add j) = some u) (h1 : ∀ u ∈ news, u.oneCell' = true)
  (h63 : n + m <= maxLen) (hbytes : (n + m) * bytes <= 140737488355328)
  (h : ∀ g' c' w', w'.ownsRow 0 e size (.slice (some ⟨g', 0, none⟩) (n + m) c') (n + m) (xs ++ news) -> w.grownBy w' v.ownBlock -> (v.ownBlock = some g' \/ w.heap.size <= g') -> K (a.put o.dst (.slice (some ⟨g', 0, none⟩) (n + m) c')) w') :
  o.wp P a w K Q := by
 obtain ⟨g', c', w', hr, h2, h3, h4⟩ := run_append_fresh (P := P) t o.type e i z size bytes ht hi hz hsize hby hzs hsz v n xs hown ad m c news hl hm hnews h1 h63 hbytes
 unfold Oper.wp execOp
 simp only [hop, resolve, invoke, builtin, Sem.run_bind, Sem.run_pure, Result.andThen_ok, List.map_toArray, List.map_cons, List.map_nil, hs, hx, hr]
 exact h g' c' w' h2 h3 h4
theorem step_append {K : Act -> World -> Prop} {E : Prop}
  (hgd : o.guard = none) (s x : Operand) (t : TypeId) (hop : o.op = Op.call { callee := Callee.builtin Builtin.append, args := #[s, x], argTypes := #[t, t] })
  (e : TypeId) (i : TypeInfo) (z : Value) (size bytes : Nat) (ht : P.underlying t = some (.slice e)) (hi : P.info? e = some i) (hz : i.zero = some z)
  (hsize : i.size = size) (hby : i.bytes = bytes) (hzs : z.cells.size = size) (hsz : 0 < size)
  (v : Value) (n : Nat) (xs : List Value) (hs : a.eval s = v) (hown : w.ownsRow 0 e size v n xs)
  (ad : Addr) (m c : Nat) (news : List Value) (hx : a.eval x = .slice (some ad) m c) (hl : news.length = m * size) (hm : 0 < m) (hnews : ∀ j u, news[j]? = some u -> w.cell? (ad.add j) = some u) (h1 : ∀ u ∈ news, u.oneCell' = true)
  (h63 : n + m <= maxLen) (hbytes : (n + m) * bytes <= 140737488355328)
  (h : ∀ g' c' w', w'.ownsRow 0 e size (.slice (some ⟨g', 0, none⟩) (n + m) c') (n + m) (xs ++ news) -> w.grownBy w' v.ownBlock -> (v.ownBlock = some g' \/ w.heap.size <= g') -> K (a.put o.dst (.slice (some ⟨g', 0, none⟩) (n + m) c')) w') :
  if Region.wanted o (yielded ops a.tmps) = true then Oper.wp P o a w K Q else E := by
 have hw : Region.wanted o (yielded ops a.tmps) = true := by simp [Region.wanted, hgd]
 rw [if_pos hw]
 exact wp_append_fresh s x t hop e i z size bytes ht hi hz hsize hby hzs hsz v n xs hs hown ad m c news hx hl hm hnews h1 h63 hbytes h
theorem wpList_append {rest : List Oper}
  (hgd : o.guard = none) (s x : Operand) (t : TypeId) (hop : o.op = Op.call { callee := Callee.builtin Builtin.append, args := #[s, x], argTypes := #[t, t] })
  (e : TypeId) (i : TypeInfo) (z : Value) (size bytes : Nat) (ht : P.underlying t = some (.slice e)) (hi : P.info? e = some i) (hz : i.zero = some z)
  (hsize : i.size = size) (hby : i.bytes = bytes) (hzs : z.cells.size = size) (hsz : 0 < size)
  (v : Value) (n : Nat) (xs : List Value) (hs : a.eval s = v) (hown : w.ownsRow 0 e size v n xs)
  (ad : Addr) (m c : Nat) (news : List Value) (hx : a.eval x = .slice (some ad) m c) (hl : news.length = m * size) (hm : 0 < m) (hnews : ∀ j u, news[j]? = some u -> w.cell? (ad.add j) = some u) (h1 : ∀ u ∈ news, u.oneCell' = true)
  (h63 : n + m <= maxLen) (hbytes : (n + m) * bytes <= 140737488355328)
  (h : ∀ g' c' w', w'.ownsRow 0 e size (.slice (some ⟨g', 0, none⟩) (n + m) c') (n + m) (xs ++ news) -> w.grownBy w' v.ownBlock -> (v.ownBlock = some g' \/ w.heap.size <= g') -> wpList P ops Q rest (a.put o.dst (.slice (some ⟨g', 0, none⟩) (n + m) c')) w') :
  wpList P ops Q (o :: rest) a w :=
 wpList_plain hgd fun _ hK => wp_append_fresh s x t hop e i z size bytes ht hi hz hsize hby hzs hsz v n xs hs hown ad m c news hx hl hm hnews h1 h63 hbytes fun g' c' w' h2 h3 h4 => hK _ _ (h g' c' w' h2 h3 h4)
end
theorem news_alloc (w : World) (cs : List Value) (T : TypeId) : ∀ j u, cs[j]? = some u -> (w.alloc (.cells cs.toArray T)).cell? ((⟨w.heap.size, 0, none⟩ : Addr).add j) = some u := by
 intro j u hj
 rw [Lib.addr_add, (Blk.new w cs.toArray T).cell]
 simpa using hj
theorem ownsRow_frame {F : Nat -> Prop} {w w' : World} {e : TypeId} {size n : Nat} {v : Value} {xs : List Value} (h : w.ownsRow 0 e size v n xs) (hf : Fr F w w') (hF : ∀ k, v.ownBlock = some k -> ¬ F k) : w'.ownsRow 0 e size v n xs := by
 refine ⟨h.1, ?_⟩
 rcases h.2 with hn | ⟨g, cap, cur, rfl, hb, hgg, rest⟩
 ·exact .inl hn
 ·exact .inr ⟨g, cap, cur, rfl, hb, hf.heap (hF g rfl) hgg, rest⟩
theorem ownsRow_setCell {w : World} {e : TypeId} {size n : Nat} {v : Value} {xs : List Value} (h : w.ownsRow 0 e size v n xs) {p : Addr} (hp : v.ownBlock ≠ some p.block) (u : Value) : (w.setCell p u).ownsRow 0 e size v n xs := by
 refine ⟨h.1, ?_⟩
 rcases h.2 with hn | ⟨g, cap, cur, rfl, hb, hgg, rest⟩
 ·exact .inl hn
 ·exact .inr ⟨g, cap, cur, rfl, hb, (Below.heap_setCell w p u g (fun e => hp (by simp [Value.ownBlock, e]))).trans hgg, rest⟩
theorem ownsRow_lt {w : World} {e : TypeId} {size n : Nat} {v : Value} {xs : List Value} (h : w.ownsRow 0 e size v n xs) {k : Nat} (hk : v.ownBlock = some k) : k < w.heap.size := (h.lt k hk).2
theorem Blk.setRow {w : World} {b : Nat} {cs : Array Value} {T : TypeId} (h : Blk w b cs T) (cs' : Array Value) : Blk (w.setRow b cs') b cs' T := setRow_heap w b cs cs' T (0, 0) h
theorem Blk.setRow_ne {w : World} {b : Nat} {cs : Array Value} {T : TypeId} (h : Blk w b cs T) {g : Nat} (hb : b ≠ g) (cs' : Array Value) : Blk (w.setRow g cs') b cs T := (setRow_other w g b cs' hb).trans h
theorem Fr.setRow {F : Nat -> Prop} {a w : World} (h : Fr F a w) {b : Nat} (hb : F b \/ a.heap.size <= b) (cs' : Array Value) : Fr F a (w.setRow b cs') :=
 h.trans (G := fun x => x = b) ⟨rfl, rfl, rfl, by simp, fun k _ hk => setRow_other w b k cs' hk⟩ (fun x hx => by subst hx; exact hb)
theorem toList_ne {s : ByteArray} (h : 0 < s.size) : s.toList.isEmpty = false := by
 rw [Go.ByteArray.toList_eq]
 have hl : s.data.toList.length = s.size := Array.length_toList
 match h2 : s.data.toList, hl with
 | [], hl => exact absurd (show 0 = s.size from hl) (by omega)
 | a :: l, _ => rfl
theorem toList_nil {s : ByteArray} (h : s.size = 0) : s.toList.isEmpty = true := by
 rw [Go.ByteArray.toList_eq]
 have hl : s.data.toList.length = s.size := Array.length_toList
 match h2 : s.data.toList, hl with
 | [], _ => rfl
 | a :: l, hl => exact absurd (show l.length + 1 = s.size from hl) (by omega)
end
section
open Go
section
variable {P : Program} {ops : Array Oper} {md : Region.Mode} {w : World} {Q : Exit -> Act -> World -> Prop}
def sinkM (md : Region.Mode) (ops : Array Oper) (n : Nat) (M : List Nat) : Bool :=
 (List.range n).all fun i => M.contains i || (List.range (n + 1)).any fun j => decide (i < j) && Region.waitsFor md ops j i
def chainM (md : Region.Mode) (ops : Array Oper) (n : Nat) : Bool :=
 (List.range ops.size).all fun t => decide (t <= n) || (List.range t).any fun j => decide (n <= j) && Region.waitsFor md ops t j
theorem tail_waitsM {n : Nat} {M : List Nat} {listed : Array Bool} (hs : sinkM md ops n M = true) (hc : chainM md ops n = true) (hn : n < ops.size) (inv : HeadInv md ops n listed)
  (hM : ∀ i ∈ M, listed.getD i false = true) :
  ∀ (d i : Nat), n - i = d -> i < n -> listed.getD i true = false -> ∀ t, n <= t -> t ∉ Region.ready md ops listed := by
 intro d
 induction d using Nat.strongRecOn with
 | _ d ih =>
  intro i hd hi hun t ht hr
  obtain ⟨_, ot, hot, hall⟩ := mem_ready.1 hr
  have htlt : t < ops.size := (Array.getElem?_eq_some_iff.1 hot).1
  by_cases htn : t = n
  ·subst htn
   have h1 := List.all_eq_true.1 hs i (List.mem_range.2 hi)
   simp only [Bool.or_eq_true] at h1
   rcases h1 with h1 | h1
   ·have h2 := hM i (by simpa using h1)
    rw [getD_both hun] at h2
    cases h2
   obtain ⟨j, hj, hj2⟩ := List.any_eq_true.1 h1
   simp only [Bool.and_eq_true, decide_eq_true_eq] at hj2
   obtain ⟨oj, hoj, e, he, hb, hon⟩ := Region.waitsFor_spec hj2.2
   have hjle : j <= t := by have := List.mem_range.1 hj; omega
   by_cases hjt : j = t
   ·subst hjt
    have : oj = ot := Option.some.inj (hoj.symm.trans hot)
    subst this
    have h2 := hall e he hb
    rw [hon, getD_both hun] at h2
    cases h2
   ·cases hl : listed.getD j false with
    | true =>
     have h2 := inv.closed j oj hoj hl e he hb
     rw [hon, getD_both hun] at h2
     cases h2
    | false =>
     have hjs : j < listed.size := by rw [inv.size]; omega
     exact ih (t - j) (by omega) j rfl (by omega) (getD_in hjs hl) t (Nat.le_refl _) hr
  ·have h1 := List.all_eq_true.1 hc t (List.mem_range.2 htlt)
   simp only [Bool.or_eq_true, decide_eq_true_eq] at h1
   rcases h1 with h1 | h1
   ·omega
   ·obtain ⟨j, hj, hj2⟩ := List.any_eq_true.1 h1
    simp only [Bool.and_eq_true, decide_eq_true_eq] at hj2
    have hjt := List.mem_range.1 hj
    obtain ⟨o', ho', e, he, hb, hon⟩ := Region.waitsFor_spec hj2.2
    have : o' = ot := Option.some.inj (ho'.symm.trans hot)
    subst this
    have h2 := hall e he hb
    rw [hon, getD_both (inv.tail j hj2.1 (by omega))] at h2
    cases h2
theorem wpAnyL_firstM {n i : Nat} {M : List Nat} {oi : Oper} {v : Value} {L : Array Bool -> Act -> Prop} (hi : ops[i]? = some oi) (hsel : ∀ (j : Nat) (o : Oper) cs b, ops[j]? = some o -> o.op ≠ .select cs b)
  (hs : sinkM md ops n M = true) (hc : chainM md ops n = true) (hn : n < ops.size) (hin : i < n)
  (hdone : ∀ listed a, L listed a -> ∀ j ∈ Region.ready md ops listed, n <= j) :
  ∀ (f : Nat) (listed : Array Bool) (a : Act), HeadInv md ops n listed -> (∀ i ∈ M, listed.getD i false = true) ->
   (∀ j oj, ops[j]? = some oj -> j ≠ i -> listed.getD j true = false -> (∀ e ∈ oj.after, Region.binds md e = true -> e.on ≠ i) -> oi.apart ops oj = true) ->
   i ∈ Region.ready md ops listed -> YieldsAt P ops w oi v a ->
   wpAnyL P md ops w n L f (listed.setIfInBounds i true) (a.put oi.dst v) -> wpAnyL P md ops w n L (f + 1) listed a := by
 intro f
 induction f with
 | zero =>
  intro listed a inv hM _ hr hy H
  have hun := (mem_ready.1 hr).1
  refine ⟨fun h => (by rw [h] at hr; cases hr), fun j hj => ?_⟩
  have hjn : j < n := by
   rcases Nat.lt_or_ge j n with h | h
   ·exact h
   ·exact absurd hj (tail_waitsM hs hc hn inv hM _ i rfl hin hun j h)
  refine ⟨hjn, ?_⟩
  by_cases hji : j = i
  ·subst hji; exact hy.stOp hi H
  ·have := hdone _ _ H j (ready_mono hj hji)
   omega
 | succ f ih =>
  intro listed a inv hM hfree hr hy H
  have hun := (mem_ready.1 hr).1
  refine ⟨fun h => (by rw [h] at hr; cases hr), fun j hj => ?_⟩
  have hjn : j < n := by
   rcases Nat.lt_or_ge j n with h | h
   ·exact h
   ·exact absurd hj (tail_waitsM hs hc hn inv hM _ i rfl hin hun j h)
  refine ⟨hjn, ?_⟩
  by_cases hji : j = i
  ·subst hji; exact hy.stOp hi H
  ·have h1 := (H.2 j (ready_mono hj hji)).2
   obtain ⟨hjun, oj, hoj, hall⟩ := mem_ready.1 hj
   have hnot : ∀ e ∈ oj.after, Region.binds md e = true -> e.on ≠ i := fun e he hb heq => by
    have h1 := hall e he hb
    rw [heq, getD_both hun] at h1
    cases h1
   have h2 := stOp_put hoj (hfree j oj hoj hji hjun hnot) (fun cs b => hsel i oi cs b hi) (fun cs b => hsel j oj cs b hoj) hy h1
   have hfree' : ∀ k ok, ops[k]? = some ok -> k ≠ i -> (listed.setIfInBounds j true).getD k true = false ->
     (∀ e ∈ ok.after, Region.binds md e = true -> e.on ≠ i) -> oi.apart ops ok = true := fun k ok hk hki hun hno => by
    refine hfree k ok hk hki ?_ hno
    by_cases hjk : j = k
    ·subst hjk; exact hjun
    ·rw [getD_set_ne true hjk] at hun; exact hun
   refine stOp_mono (fun a' h3 => ih (listed.setIfInBounds j true) a' (inv.set hj hjn) (fun x hx => getD_set_true (hM x hx)) hfree' (ready_mono hr (Ne.symm hji)) h3.1 ?_) h2
   rw [Array.setIfInBounds_comm _ _ hji]
   exact h3.2
def pureLike (o : Oper) : Bool := o.guard.isNone && (match o.op with | .move _ | .assign _ | .extract _ _ => true | _ => false)
def tailSeq (md : Region.Mode) (ops : Array Oper) : Nat -> Nat -> Array Bool -> Bool
 | 0, _, listed => (Region.ready md ops listed).isEmpty
 | g + 1, k, listed => (decide (Region.ready md ops listed = [k]) || ((Region.ready md ops listed).contains k && (Region.ready md ops listed).all (fun j => decide (k <= j)) && Region.free md ops listed k && ((ops[k]?).map pureLike).getD false)) &&
   tailSeq md ops g (k + 1) (listed.setIfInBounds k true)
theorem tailSeq_ready {g k : Nat} {listed : Array Bool} (h : tailSeq md ops g k listed = true) : ∀ j ∈ Region.ready md ops listed, k <= j := by
 cases g with
 | zero => intro j hj; simp only [tailSeq, List.isEmpty_iff] at h; rw [h] at hj; cases hj
 | succ g =>
  intro j hj
  simp only [tailSeq, Bool.and_eq_true, Bool.or_eq_true, decide_eq_true_eq] at h
  rcases h.1 with h1 | h1
  ·rw [h1] at hj
   have : j = k := by simpa using hj
   omega
  ·have := List.all_eq_true.1 h1.1.1.2 j hj
   simpa using this
theorem pure_runs {o : Oper} {a : Act} (h : pureLike o = true) : (∃ v, ∀ w : World, (execOp a.eval o).run P w = .ok (.value v) w) \/ (∀ w : World, ∃ s, (execOp a.eval o).run P w = .halt (.stuck s) w) := by
 simp only [pureLike, Bool.and_eq_true] at h
 obtain ⟨_, h⟩ := h
 cases hop : o.op <;> rw [hop] at h <;> first | (cases h; done) | skip
 ·rename_i x; left; refine ⟨a.eval x, fun w => ?_⟩; unfold execOp; rw [hop]; rfl
 ·rename_i x; left; refine ⟨a.eval x, fun w => ?_⟩; unfold execOp; rw [hop]; rfl
 ·rename_i t ix
  unfold execOp; rw [hop]
  cases hv : a.eval t <;> simp only [hv, Instr.extract]
  case tuple vs =>
   cases hi : vs[ix]? with
   | none => right; intro w; exact ⟨_, rfl⟩
   | some x => left; exact ⟨x, fun w => rfl⟩
  all_goals (right; intro w; exact ⟨_, rfl⟩)
theorem noMark_pure {o : Oper} {a : Act} {w : World} (h : pureLike o = true) : ¬ noRoomEvent ∈ ((execOp a.eval o).runT P w #[]).2 := by
 simp only [pureLike, Bool.and_eq_true] at h
 obtain ⟨_, h⟩ := h
 cases hop : o.op <;> rw [hop] at h <;> first | (cases h; done) | skip
 ·unfold execOp; rw [hop]; exact fun hm => absurd (show noRoomEvent ∈ (#[] : Array Event) from hm) (by simp)
 ·unfold execOp; rw [hop]; exact fun hm => absurd (show noRoomEvent ∈ (#[] : Array Event) from hm) (by simp)
 ·rename_i t ix
  unfold execOp; rw [hop]
  cases hv : a.eval t <;> simp only [hv, Instr.extract]
  case tuple vs =>
   cases hi : vs[ix]? with
   | none => exact fun hm => absurd (show noRoomEvent ∈ (#[] : Array Event) from hm) (by simp)
   | some x => exact fun hm => absurd (show noRoomEvent ∈ (#[] : Array Event) from hm) (by simp)
  all_goals exact fun hm => absurd (show noRoomEvent ∈ (#[] : Array Event) from hm) (by simp)
theorem wpAny_of_tail {Q' : Exit -> Act -> World -> Prop} (hsel : Region.noSelect ops = true) (hQ : ∀ c a d v w, Q' (.panic c) (Act.put a d v) w -> Q' (.panic c) a w) :
  ∀ (l : List Oper) (k : Nat) (listed : Array Bool) (a : Act) (w : World), (∀ j, j < l.length -> l[j]? = ops[k + j]?) ->
  tailSeq md ops l.length k listed = true -> wpList P ops Q' l a w -> wpAny P md ops Q' l.length listed a w
 | [], _, _, _, _, _, hB, h => ⟨by simpa [tailSeq] using hB, h⟩
 | o :: l, k, listed, a, w, hl, hB, h => by
  have h0 : ops[k]? = some o := by simpa using (hl 0 (by simp)).symm
  have hl' : ∀ j, j < l.length -> l[j]? = ops[k + 1 + j]? := fun j hj => by have := hl (j + 1) (by simp; omega); simpa [Nat.add_assoc, Nat.add_comm 1 j] using this
  simp only [List.length_cons, tailSeq, Bool.and_eq_true, Bool.or_eq_true, decide_eq_true_eq] at hB
  rcases hB.1 with hr | hr
  ·refine ⟨fun h1 => (by rw [hr] at h1; cases h1), fun i hi => ?_⟩
   rw [hr] at hi
   have hik : i = k := by simpa using hi
   subst hik
   have hw : wpOp P ops Q' i (wpList P ops Q' l) a w := by unfold wpOp; simp only [h0]; exact h
   exact wpOp_mono (fun a' w' h' => wpAny_of_tail hsel hQ l (i + 1) _ a' w' hl' hB.2 h') hw
  ·obtain ⟨⟨⟨hc, _⟩, hf⟩, hp⟩ := hr
   simp only [h0, Option.map_some, Option.getD_some] at hp
   have hg : o.guard = none := by simp only [pureLike, Bool.and_eq_true] at hp; simpa using hp.1
   have hw : Region.wanted o (yielded ops a.tmps) = true := by simp [Region.wanted, hg]
   unfold wpList at h
   rw [if_pos hw] at h
   rcases pure_runs (P := P) (a := a) hp with ⟨v, hv⟩ | hst
   ·have h' : wpList P ops Q' l (a.put o.dst v) w := by
     rcases h with h | h
     ·unfold Oper.wp at h; rw [hv w] at h; exact h
     ·exfalso
      obtain ⟨⟨hmark, _⟩, _⟩ := h
      exact noMark_pure hp hmark
    exact wpAny_take h0 hsel hf hc (fun c a w => hQ c a _ _ w) (Or.inl ⟨hw, hv⟩) (wpAny_of_tail hsel hQ l (k + 1) _ _ w hl' hB.2 h')
   ·exfalso
    rcases h with h | h
    ·unfold Oper.wp at h
     obtain ⟨s, hs⟩ := hst w
     rw [hs] at h
     exact h
    ·obtain ⟨⟨hmark, _⟩, _⟩ := h
     exact noMark_pure hp hmark
def lexSeq (md : Region.Mode) (ops : Array Oper) (n g : Nat) : List Nat -> Array Bool -> Bool
 | [], listed => tailSeq md ops g n listed
 | k :: σ, listed => decide (k < n) && (Region.ready md ops listed).contains k && Region.free md ops listed k && lexSeq md ops n g σ (listed.setIfInBounds k true)
theorem wpAnyL_lexM {n g : Nat} {M : List Nat} {Lq : Act -> Prop} (hsel : Region.noSelect ops = true) (hs : sinkM md ops n M = true) (hc : chainM md ops n = true) (hn : n < ops.size) :
  ∀ (σ : List Nat) (listed : Array Bool) (a : Act), HeadInv md ops n listed -> (∀ i ∈ M, listed.getD i false = true) ->
  lexSeq md ops n g σ listed = true -> wpStill P ops w Lq (σ.filterMap (ops[·]?)) a ->
  wpAnyL P md ops w n (fun listed' a' => tailSeq md ops g n listed' = true /\ Lq a') σ.length listed a
 | [], listed, a, _, _, hB, h => ⟨by simpa [lexSeq] using hB, h⟩
 | k :: σ, listed, a, inv, hM, hB, h => by
  simp only [lexSeq, Bool.and_eq_true, decide_eq_true_eq] at hB
  obtain ⟨⟨⟨hkn, hr⟩, hf⟩, hB'⟩ := hB
  have hr' : k ∈ Region.ready md ops listed := by simpa using hr
  obtain ⟨_, o, h0, _⟩ := mem_ready.1 hr'
  simp only [List.filterMap_cons, h0] at h
  have hst : stOp P ops w k (wpStill P ops w Lq (σ.filterMap (ops[·]?))) a := by unfold stOp; simp only [h0]; exact h
  obtain ⟨v, hy, hK⟩ := yieldsAt_of_stOp h0 hst
  exact wpAnyL_firstM h0 (Region.noSelect_spec hsel) hs hc hn hkn (fun listed' a' hL => tailSeq_ready hL.1) σ.length listed a inv hM (Region.free_spec h0 hf) hr' hy
   (wpAnyL_lexM hsel hs hc hn σ _ _ (inv.set hr' hkn) (fun x hx => getD_set_true (hM x hx)) hB' hK)
def moveLike (o : Oper) : Bool := o.guard.isNone && (match o.op with | .move _ => true | _ => false)
def setAll (listed : Array Bool) : List Nat -> Array Bool
 | [] => listed
 | i :: M => setAll (listed.setIfInBounds i true) M
def movesOk (md : Region.Mode) (ops : Array Oper) : List Nat -> Array Bool -> Bool
 | [], _ => true
 | i :: M, listed => ((ops[i]?).map moveLike).getD false && Region.free md ops listed i && (Region.ready md ops listed).contains i && movesOk md ops M (listed.setIfInBounds i true)
theorem wpAny_moves {f : Nat} {R : Act -> Prop} {rest : List Oper} (hsel : Region.noSelect ops = true) (hQ : ∀ c a d v w, Q (.panic c) (Act.put a d v) w -> Q (.panic c) a w) :
  ∀ (M : List Nat) (listed : Array Bool) (a : Act), movesOk md ops M listed = true -> wpStill P ops w R (M.filterMap (ops[·]?) ++ rest) a ->
   (∀ a', wpStill P ops w R rest a' -> wpAny P md ops Q f (setAll listed M) a' w) -> wpAny P md ops Q (f + M.length) listed a w
 | [], listed, a, _, h, hn => hn a h
 | i :: M, listed, a, hB, h, hn => by
  simp only [movesOk, Bool.and_eq_true] at hB
  obtain ⟨⟨⟨hmv, hf⟩, hr⟩, hB'⟩ := hB
  cases h0 : ops[i]? with
  | none => simp [h0] at hmv
  | some o =>
   simp only [h0, Option.map_some, Option.getD_some, moveLike, Bool.and_eq_true] at hmv
   obtain ⟨hg, hop⟩ := hmv
   have hg' : o.guard = none := by simpa using hg
   simp only [List.filterMap_cons, h0, List.cons_append, wpStill] at h
   have hw : Region.wanted o (yielded ops a.tmps) = true := by simp [Region.wanted, hg']
   rw [if_pos hw] at h
   split at hop
   ·rename_i x hx
    have hrun : ∀ w' : World, (execOp a.eval o).run P w' = .ok (.value (a.eval x)) w' := fun w' => by unfold execOp; rw [hx]; rfl
    unfold Oper.still at h
    rw [hrun w] at h
    have h' := h.2
    have := wpAny_moves (f := f) hsel hQ M (listed.setIfInBounds i true) (a.put o.dst (a.eval x)) hB' h' hn
    rw [List.length_cons, <- Nat.add_assoc]
    exact wpAny_take h0 hsel hf hr (fun c a w => hQ c a _ _ w) (Or.inl ⟨hw, hrun⟩) this
   ·cases hop
def headB (md : Region.Mode) (ops : Array Oper) (n : Nat) (listed : Array Bool) : Bool :=
 decide (listed.size = ops.size) && ((List.range ops.size).all fun j => !listed.getD j false || (match ops[j]? with | some o => o.after.all fun e => !Region.binds md e || listed.getD e.on false | none => true)) &&
 ((List.range ops.size).all fun t => decide (t < n) || !listed.getD t true)
theorem headB_spec {n : Nat} {listed : Array Bool} (h : headB md ops n listed = true) : HeadInv md ops n listed := by
 simp only [headB, Bool.and_eq_true, decide_eq_true_eq, List.all_eq_true, List.mem_range] at h
 obtain ⟨⟨h1, h2⟩, h3⟩ := h
 refine ⟨h1, fun j oj hj hl e he hb => ?_, fun t ht htl => ?_⟩
 ·have := h2 j (Array.getElem?_eq_some_iff.1 hj).1
  simp only [hl, hj, Bool.not_true, Bool.false_or, Array.all_eq_true'] at this
  have h5 := this e he
  simpa [hb] using h5
 ·have := h3 t htl
  simp only [Bool.or_eq_true, decide_eq_true_eq, Bool.not_eq_true'] at this
  rcases this with h | h
  ·omega
  ·exact h
def tailB (ops : Array Oper) (n : Nat) (M σ : List Nat) : Bool :=
 Region.noSelect ops && decide (n < ops.size) && decide (M.length + σ.length = n) && movesOk .any ops M (Array.replicate ops.size false) &&
 (M.all fun i => (setAll (Array.replicate ops.size false) M).getD i false) && headB .any ops n (setAll (Array.replicate ops.size false) M) &&
 sinkM .any ops n M && chainM .any ops n && lexSeq .any ops n (ops.size - n) σ (setAll (Array.replicate ops.size false) M)
theorem wp_region_tail {id : Nat} {a : Act} {l : List Oper} (n : Nat) (M σ : List Nat) (hm : P.follows .mixedOrders = true) (hB : tailB l.toArray n M σ = true)
  (hQ0 : ∀ c t t' ds w, Q (.panic c) ⟨t, ds⟩ w -> Q (.panic c) ⟨t', ds⟩ w)
  (h : wpStill P l.toArray w.drew (fun a' => wpList P l.toArray Q (l.drop n) a' w.drew) (M.filterMap (l.toArray[·]?) ++ σ.filterMap (l.toArray[·]?)) a) : (Code.region id l.toArray true).wp P Q a w := by
 have hQ : ∀ c a d v w, Q (.panic c) (Act.put a d v) w -> Q (.panic c) a w := fun c a d v w h => by
  cases d with
  | none => exact h
  | some d => exact hQ0 c _ _ _ w h
 simp only [tailB, Bool.and_eq_true, decide_eq_true_eq] at hB
 obtain ⟨⟨⟨⟨⟨⟨⟨⟨hsel, hn⟩, hlen⟩, hmv⟩, hMl⟩, hhd⟩, hs⟩, hc⟩, hlex⟩ := hB
 have hdl : (l.drop n).length = l.toArray.size - n := by simp
 refine wp_region_any hm ?_
 have key : wpAny P .any l.toArray Q ((σ.length + (l.toArray.size - n)) + M.length) (Array.replicate l.toArray.size false) a w.drew := by
  refine wpAny_moves hsel hQ M _ a hmv h (fun a' h' => ?_)
  have H := wpAnyL_lexM (md := .any) (g := l.toArray.size - n) hsel hs hc hn σ _ a' (headB_spec hhd) (fun i hi => List.all_eq_true.1 hMl i hi) hlex h'
  exact wpAny_of_head (Q' := Q) (g := l.toArray.size - n) (fun listed a' hL => by
   have := wpAny_of_tail (md := .any) (Q' := Q) hsel hQ (l.drop n) n listed a' w.drew (fun j _ => by simp [List.getElem?_drop]) (by rw [hdl]; exact hL.1) hL.2
   rwa [hdl] at this) _ _ _ H
 rw [show (σ.length + (l.toArray.size - n)) + M.length = l.toArray.size by omega] at key
 exact key
end
end
end Go.Proofs.YtepbbahdhhjibaaGreatDoor
