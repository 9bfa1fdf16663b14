/- own text -/
import Derived.Test.YtepbbahdhhjibaaGreatDoorC40
namespace Go.Proofs.YtepbbahdhhjibaaGreatDoor
set_option linter.unusedSimpArgs false
set_option linter.unusedVariables false
set_option maxHeartbeats 4000000
set_option maxRecDepth 100000
section
open Go.RowKit
def findR (n : Nat) : Code -> Option Code
 | .region id ops b => if id = n then some (.region id ops b) else none
 | .loop c => findR n c
 | .seq a b => match findR n a with
  | some c => some c
  | none => findR n b
 | .block _ c => findR n c
 | .scope c => findR n c
 | .cond _ a b => match findR n a with
  | some c => some c
  | none => findR n b
 | _ => none
noncomputable def reg135 : Code := ((Tryz.f135.body.bind (findR 17)).getD .skip)
def sl17 (i : Nat) : Nat := if i <= 20 then 95 + i else 94 + i
section
variable (P : Nat) (s : ByteArray) (a0 : Nat) (q : PV) (vd : Int) (p l : ByteArray) (v9 : Value) (opn : List ByteArray) (nb : Nat) (bs : List Value) (wr : World) (f : Act)
def vals17 : Nat -> Option Value
 | 0 | 1 | 2 | 3 | 12 | 13 | 19 | 22 => some (.pointer (some ⟨P, 0, none⟩))
 | 4 | 20 => some (.pointer (some ⟨P, 6, none⟩))
 | 5 => some q.pv
 | 6 => some (.string p)
 | 7 => some (.string (p ++ ⟨#[58]⟩))
 | 8 => some (.string l)
 | 9 => some (.string (colon p l))
 | 14 | 23 => some (.pointer (some ⟨P, 7, none⟩))
 | 15 => some q.bv
 | 16 => some v9
 | _ => none
structure S17 (L : Nat -> Bool) (a : Act) (w : World) : Prop where
 rest : Rest 95 118 f a
 fr : Fr (fun x => x = P \/ q.pv.ownBlock = some x \/ q.bv.ownBlock = some x) wr w
 val : ∀ i v, vals17 P q p l v9 i = some v -> L i = true -> a.tmps[sl17 i]? = some v
 blk : ∃ x6 x7, PB w P s a0 ⟨q.ov, x6, x7⟩ vd /\ (L 21 = false -> x6 = q.pv) /\ (L 24 = false -> x7 = q.bv) /\ (L 21 = true -> a.tmps[106]? = some x6) /\ (L 24 = true -> a.tmps[113]? = some x7)
 p0 : L 11 = false -> w.ownsRow 0 9 1 q.pv opn.length (opn.map .string)
 pA : L 10 = true -> L 11 = false -> ∃ k, a.tmps[105]? = some (.slice (some ⟨k, 0, none⟩) 1 1) /\ Blk w k #[.string (colon p l)] 9 /\ wr.heap.size <= k
 p1 : L 11 = true -> ∃ g c, a.tmps[106]? = some (.slice (some ⟨g, 0, none⟩) (opn.length + 1) c) /\ w.ownsRow 0 9 1 (.slice (some ⟨g, 0, none⟩) (opn.length + 1) c) (opn.length + 1) (opn.map .string ++ [.string (colon p l)]) /\ (q.pv.ownBlock = some g \/ wr.heap.size <= g) /\ (L 18 = false -> ¬ q.bv.ownBlock = some g)
 b0 : L 18 = false -> w.ownsRow 0 84 1 q.bv nb bs
 bA : L 17 = true -> L 18 = false -> ∃ k, a.tmps[112]? = some (.slice (some ⟨k, 0, none⟩) 1 1) /\ Blk w k #[v9] 84 /\ wr.heap.size <= k
 b1 : L 18 = true -> ∃ g c g1 c1, a.tmps[113]? = some (.slice (some ⟨g, 0, none⟩) (nb + 1) c) /\ a.tmps[106]? = some (.slice (some ⟨g1, 0, none⟩) (opn.length + 1) c1) /\ w.ownsRow 0 84 1 (.slice (some ⟨g, 0, none⟩) (nb + 1) c) (nb + 1) (bs ++ [v9]) /\ (q.bv.ownBlock = some g \/ wr.heap.size <= g) /\ g1 ≠ g
 ord : (L 18 = true -> L 11 = true) /\ (L 21 = true -> L 18 = true) /\ (L 24 = true -> L 18 = true) /\ (L 11 = true -> L 5 = true) /\ (L 18 = true -> L 15 = true)
end
structure H17 (P : Nat) (q : PV) (wr : World) : Prop where
 Pp : ¬ q.pv.ownBlock = some P
 Pb : ¬ q.bv.ownBlock = some P
 pb : ∀ k, q.bv.ownBlock = some k -> ¬ q.pv.ownBlock = some k
 pl : ∀ k, q.pv.ownBlock = some k -> k < wr.heap.size
 bl : ∀ k, q.bv.ownBlock = some k -> k < wr.heap.size
 Pw : P < wr.heap.size
section
variable {P : Nat} {s : ByteArray} {a0 : Nat} {q : PV} {vd : Int} {p l : ByteArray} {v9 : Value} {opn : List ByteArray} {nb : Nat} {bs : List Value} {wr : World} {f : Act} {L L' : Nat -> Bool} {a : Act} {w : World}
theorem S17.congr (h : S17 P s a0 q vd p l v9 opn nb bs wr f L a w) (e : ∀ j, j < 25 -> L j = L' j) : S17 P s a0 q vd p l v9 opn nb bs wr f L' a w := by
 have e10 := e 10 (by decide)
 have e11 := e 11 (by decide)
 have e17 := e 17 (by decide)
 have e18 := e 18 (by decide)
 have e21 := e 21 (by decide)
 have e24 := e 24 (by decide)
 have e5 := e 5 (by decide)
 have e15 := e 15 (by decide)
 obtain ⟨x6, x7, b1, b2, b3, b4, b5⟩ := h.blk
 refine ⟨h.rest, h.fr, fun i v hv hi => ?_, ⟨x6, x7, b1, by rw [<- e21]; exact b2, by rw [<- e24]; exact b3, by rw [<- e21]; exact b4, by rw [<- e24]; exact b5⟩, by rw [<- e11]; exact h.p0, by rw [<- e10, <- e11]; exact h.pA, by rw [<- e11, <- e18]; exact h.p1, by rw [<- e18]; exact h.b0, by rw [<- e17, <- e18]; exact h.bA, by rw [<- e18]; exact h.b1, by rw [<- e11, <- e18, <- e21, <- e24, <- e5, <- e15]; exact h.ord⟩
 have hlt : i < 25 := by
  rcases Nat.lt_or_ge i 25 with h1 | h1
  ·exact h1
  ·exfalso
   obtain ⟨k, rfl⟩ : ∃ k, i = k + 25 := ⟨i - 25, by omega⟩
   simp [vals17] at hv
 exact h.val i v hv (by rw [e i hlt]; exact hi)
theorem sl17_ne {i j : Nat} (h : i ≠ j) (hi : i ≠ 21) (hj : j ≠ 21) : sl17 i ≠ sl17 j := by
 unfold sl17; split <;> split <;> omega
theorem vals17_lt {i : Nat} {v : Value} (h : vals17 P q p l v9 i = some v) : i < 24 /\ i ≠ 10 /\ i ≠ 11 /\ i ≠ 17 /\ i ≠ 18 /\ i ≠ 21 := by
 refine ⟨?_, ?_, ?_, ?_, ?_, ?_⟩
 ·rcases Nat.lt_or_ge i 24 with h1 | h1
  ·exact h1
  ·exfalso
   obtain ⟨k, rfl⟩ : ∃ k, i = k + 24 := ⟨i - 24, by omega⟩
   simp [vals17] at h
 all_goals (rintro rfl; simp [vals17] at h)
theorem S17.pure (h : S17 P s a0 q vd p l v9 opn nb bs wr f L a w) (hsz : f.tmps.size = 182) (i : Nat) (v : Value) (hi : vals17 P q p l v9 i = some v) : S17 P s a0 q vd p l v9 opn nb bs wr f (fun j => j == i || L j) (a.put (some (sl17 i)) v) w := by
 obtain ⟨h24, h10, h11, h17, h18, h21⟩ := vals17_lt hi
 have e : ∀ j, j ≠ i -> (j == i || L j) = L j := fun j hj => by simp [hj]
 have hd : 95 <= sl17 i /\ sl17 i < 118 := by unfold sl17; split <;> omega
 have hs : a.tmps.size = 182 := by rw [h.rest.size]; exact hsz
 have n105 : sl17 i ≠ 105 := sl17_ne (j := 10) h10 h21 (by decide)
 have n106 : sl17 i ≠ 106 := sl17_ne (j := 11) h11 h21 (by decide)
 have n112 : sl17 i ≠ 112 := sl17_ne (j := 17) h17 h21 (by decide)
 have n113 : sl17 i ≠ 113 := sl17_ne (j := 18) h18 h21 (by decide)
 have q105 := slot_put_ne (a := a) (v := v) n105
 have q106 := slot_put_ne (a := a) (v := v) n106
 have q112 := slot_put_ne (a := a) (v := v) n112
 have q113 := slot_put_ne (a := a) (v := v) n113
 refine ⟨h.rest.put hd v, h.fr, fun j u hu hj => ?_, ?_, ?_, ?_, ?_, ?_, ?_, ?_, ?_⟩
 ·by_cases hji : j = i
  ·subst hji
   rw [hi] at hu
   rw [slot_put_eq (by rw [hs]; omega)]
   exact hu
  ·rw [slot_put_ne (sl17_ne (Ne.symm hji) h21 (vals17_lt hu).2.2.2.2.2)]
   exact h.val j u hu (by rw [<- e j hji]; exact hj)
 ·rw [e 21 (Ne.symm h21), e 24 (by omega), q106, q113]; exact h.blk
 ·rw [e 11 (Ne.symm h11)]; exact h.p0
 ·rw [e 10 (Ne.symm h10), e 11 (Ne.symm h11), q105]; exact h.pA
 ·rw [e 11 (Ne.symm h11), e 18 (Ne.symm h18), q106]; exact h.p1
 ·rw [e 18 (Ne.symm h18)]; exact h.b0
 ·rw [e 17 (Ne.symm h17), e 18 (Ne.symm h18), q112]; exact h.bA
 ·rw [e 18 (Ne.symm h18), q106, q113]; exact h.b1
 ·rw [e 18 (Ne.symm h18), e 11 (Ne.symm h11), e 21 (Ne.symm h21), e 24 (by omega)]
  exact ⟨h.ord.1, h.ord.2.1, h.ord.2.2.1, fun x => by rw [h.ord.2.2.2.1 x]; simp, fun x => by rw [h.ord.2.2.2.2 x]; simp⟩
theorem set_ne {i j : Nat} {L : Nat -> Bool} (h : j ≠ i) : (j == i || L j) = L j := by simp [h]
theorem set_eq {i : Nat} {L : Nat -> Bool} : (i == i || L i) = true := by simp
theorem S17.vals_ne (h : S17 P s a0 q vd p l v9 opn nb bs wr f L a w) (i : Nat) (hi : i = 10 \/ i = 11 \/ i = 17 \/ i = 18) (v : Value) : ∀ j u, vals17 P q p l v9 j = some u -> (j == i || L j) = true -> (a.put (some (sl17 i)) v).tmps[sl17 j]? = some u := by
 intro j u hu hj
 have hv := vals17_lt hu
 have hji : j ≠ i := by omega
 rw [slot_put_ne (sl17_ne (Ne.symm hji) (by omega) hv.2.2.2.2.2)]
 exact h.val j u hu (by rw [<- set_ne (L := L) hji]; exact hj)
theorem S17.st10 (h : S17 P s a0 q vd p l v9 opn nb bs wr f L a w) (hsz : f.tmps.size = 182) : S17 P s a0 q vd p l v9 opn nb bs wr f (fun j => j == 10 || L j) (a.put (some 105) (.slice (some ⟨w.heap.size, 0, none⟩) 1 1)) (w.alloc (.cells #[.string (colon p l)] 9)) := by
 have hs : a.tmps.size = 182 := by rw [h.rest.size]; exact hsz
 have ho : Old w (w.alloc (.cells #[.string (colon p l)] 9)) := (Fr.refl _ w).alloc _
 have q106 := slot_put_ne (a := a) (v := .slice (some ⟨w.heap.size, 0, none⟩) 1 1) (show 105 ≠ 106 by decide)
 have q112 := slot_put_ne (a := a) (v := .slice (some ⟨w.heap.size, 0, none⟩) 1 1) (show 105 ≠ 112 by decide)
 have q113 := slot_put_ne (a := a) (v := .slice (some ⟨w.heap.size, 0, none⟩) 1 1) (show 105 ≠ 113 by decide)
 obtain ⟨x6, x7, b1, b2, b3, b4, b5⟩ := h.blk
 refine ⟨h.rest.put (by decide) _, h.fr.alloc _, h.vals_ne 10 (by decide) _, ⟨x6, x7, b1.keep ho (fun h => h), b2, b3, fun e => q106.trans (b4 e), fun e => q113.trans (b5 e)⟩, fun e => ownsRow_frame (h.p0 e) ho (fun _ _ h => h), fun _ _ => ⟨w.heap.size, slot_put_eq (by omega), Blk.new w _ _, h.fr.size⟩, fun e => ?_, fun e => ownsRow_frame (h.b0 e) ho (fun _ _ h => h), fun e1 e2 => ?_, fun e => ?_, h.ord⟩
 ·obtain ⟨g, c, k1, k2, k3, k4⟩ := h.p1 e
  exact ⟨g, c, q106.trans k1, ownsRow_frame k2 ho (fun _ _ h => h), k3, k4⟩
 ·obtain ⟨k, k1, k2, k3⟩ := h.bA e1 e2
  exact ⟨k, q112.trans k1, k2.keep ho (fun h => h), k3⟩
 ·obtain ⟨g, c, g1, c1, k1, k2, k3, k4, k5⟩ := h.b1 e
  exact ⟨g, c, g1, c1, q113.trans k1, q106.trans k2, ownsRow_frame k3 ho (fun _ _ h => h), k4, k5⟩
theorem S17.st17 (h : S17 P s a0 q vd p l v9 opn nb bs wr f L a w) (hsz : f.tmps.size = 182) : S17 P s a0 q vd p l v9 opn nb bs wr f (fun j => j == 17 || L j) (a.put (some 112) (.slice (some ⟨w.heap.size, 0, none⟩) 1 1)) (w.alloc (.cells #[v9] 84)) := by
 have hs : a.tmps.size = 182 := by rw [h.rest.size]; exact hsz
 have ho : Old w (w.alloc (.cells #[v9] 84)) := (Fr.refl _ w).alloc _
 have q105 := slot_put_ne (a := a) (v := .slice (some ⟨w.heap.size, 0, none⟩) 1 1) (show 112 ≠ 105 by decide)
 have q106 := slot_put_ne (a := a) (v := .slice (some ⟨w.heap.size, 0, none⟩) 1 1) (show 112 ≠ 106 by decide)
 have q113 := slot_put_ne (a := a) (v := .slice (some ⟨w.heap.size, 0, none⟩) 1 1) (show 112 ≠ 113 by decide)
 obtain ⟨x6, x7, b1, b2, b3, b4, b5⟩ := h.blk
 refine ⟨h.rest.put (by decide) _, h.fr.alloc _, h.vals_ne 17 (by decide) _, ⟨x6, x7, b1.keep ho (fun h => h), b2, b3, fun e => q106.trans (b4 e), fun e => q113.trans (b5 e)⟩, fun e => ownsRow_frame (h.p0 e) ho (fun _ _ h => h), fun e1 e2 => ?_, fun e => ?_, fun e => ownsRow_frame (h.b0 e) ho (fun _ _ h => h), fun _ _ => ⟨w.heap.size, slot_put_eq (by omega), Blk.new w _ _, h.fr.size⟩, fun e => ?_, h.ord⟩
 ·obtain ⟨k, k1, k2, k3⟩ := h.pA e1 e2
  exact ⟨k, q105.trans k1, k2.keep ho (fun h => h), k3⟩
 ·obtain ⟨g, c, k1, k2, k3, k4⟩ := h.p1 e
  exact ⟨g, c, q106.trans k1, ownsRow_frame k2 ho (fun _ _ h => h), k3, k4⟩
 ·obtain ⟨g, c, g1, c1, k1, k2, k3, k4, k5⟩ := h.b1 e
  exact ⟨g, c, g1, c1, q113.trans k1, q106.trans k2, ownsRow_frame k3 ho (fun _ _ h => h), k4, k5⟩
theorem S17.st11 (h : S17 P s a0 q vd p l v9 opn nb bs wr f L a w) (H : H17 P q wr) (hsz : f.tmps.size = 182) (h11 : L 11 = false) (h5 : L 5 = true) {g c : Nat} {w' : World}
  (hrow : w'.ownsRow 0 9 1 (.slice (some ⟨g, 0, none⟩) (opn.length + 1) c) (opn.length + 1) (opn.map .string ++ [.string (colon p l)])) (hgrow : w.grownBy w' q.pv.ownBlock) (hnb : q.pv.ownBlock = some g \/ w.heap.size <= g) : S17 P s a0 q vd p l v9 opn nb bs wr f (fun j => j == 11 || L j) (a.put (some 106) (.slice (some ⟨g, 0, none⟩) (opn.length + 1) c)) w' := by
 have hs : a.tmps.size = 182 := by rw [h.rest.size]; exact hsz
 have F1 : Fr (fun x => q.pv.ownBlock = some x) w w' := (Fr.refl (fun x => q.pv.ownBlock = some x) w).grown hgrow (fun k hk => .inl hk)
 have hww := h.fr.size
 have hg : q.pv.ownBlock = some g \/ wr.heap.size <= g := hnb.imp id (fun e => by omega)
 have q105 := slot_put_ne (a := a) (v := .slice (some ⟨g, 0, none⟩) (opn.length + 1) c) (show 106 ≠ 105 by decide)
 have q112 := slot_put_ne (a := a) (v := .slice (some ⟨g, 0, none⟩) (opn.length + 1) c) (show 106 ≠ 112 by decide)
 have h18 : ¬ L 18 = true := fun e => by rw [h.ord.1 e] at h11; cases h11
 obtain ⟨x6, x7, b1, b2, b3, b4, b5⟩ := h.blk
 refine ⟨h.rest.put (by decide) _, h.fr.grown hgrow (fun k hk => .inl (.inr (.inl hk))), h.vals_ne 11 (by decide) _, ⟨x6, x7, b1.keep F1 H.Pp, b2, b3, fun e => absurd (h.ord.2.1 e) h18, fun e => absurd (h.ord.2.2.1 e) h18⟩, fun e => (by cases e), fun _ e => (by cases e), fun _ => ⟨g, c, slot_put_eq (by omega), hrow, hg, fun _ e => ?_⟩, fun e => ownsRow_frame (h.b0 e) F1 (fun k hk => H.pb k hk), fun e1 e2 => ?_, fun e => absurd e h18, fun _ => rfl, h.ord.2.1, h.ord.2.2.1, fun _ => h5, h.ord.2.2.2.2⟩
 ·rcases hg with h1 | h1
  ·exact H.pb g e h1
  ·have := H.bl g e; omega
 ·obtain ⟨k, k1, k2, k3⟩ := h.bA e1 e2
  exact ⟨k, q112.trans k1, k2.keep F1 (fun e => by have := H.pl k e; omega), k3⟩
theorem S17.st18 (h : S17 P s a0 q vd p l v9 opn nb bs wr f L a w) (H : H17 P q wr) (hsz : f.tmps.size = 182) (h18 : L 18 = false) (h11 : L 11 = true) (h15 : L 15 = true) {g c : Nat} {w' : World}
  (hrow : w'.ownsRow 0 84 1 (.slice (some ⟨g, 0, none⟩) (nb + 1) c) (nb + 1) (bs ++ [v9])) (hgrow : w.grownBy w' q.bv.ownBlock) (hnb : q.bv.ownBlock = some g \/ w.heap.size <= g) : S17 P s a0 q vd p l v9 opn nb bs wr f (fun j => j == 18 || L j) (a.put (some 113) (.slice (some ⟨g, 0, none⟩) (nb + 1) c)) w' := by
 have hs : a.tmps.size = 182 := by rw [h.rest.size]; exact hsz
 have F2 : Fr (fun x => q.bv.ownBlock = some x) w w' := (Fr.refl (fun x => q.bv.ownBlock = some x) w).grown hgrow (fun k hk => .inl hk)
 have hww := h.fr.size
 have hg : q.bv.ownBlock = some g \/ wr.heap.size <= g := hnb.imp id (fun e => by omega)
 have q106 := slot_put_ne (a := a) (v := .slice (some ⟨g, 0, none⟩) (nb + 1) c) (show 113 ≠ 106 by decide)
 have n18 : ¬ L 18 = true := fun e => by rw [e] at h18; cases h18
 obtain ⟨x6, x7, b1, b2, b3, b4, b5⟩ := h.blk
 obtain ⟨g1, c1, k1, k2, k3, k4⟩ := h.p1 h11
 have k4 := k4 h18
 have hg1 := ownsRow_lt k2 (k := g1) rfl
 refine ⟨h.rest.put (by decide) _, h.fr.grown hgrow (fun k hk => .inl (.inr (.inr hk))), h.vals_ne 18 (by decide) _, ⟨x6, x7, b1.keep F2 H.Pb, b2, b3, fun e => absurd (h.ord.2.1 e) n18, fun e => absurd (h.ord.2.2.1 e) n18⟩, fun e => ?_, fun _ e => ?_, fun _ => ⟨g1, c1, q106.trans k1, ownsRow_frame k2 F2 (fun k hk e => ?_), k3, fun e => (by cases e)⟩, fun e => (by cases e), fun _ e => (by cases e), fun _ => ⟨g, c, g1, c1, slot_put_eq (by omega), q106.trans k1, hrow, hg, ?_⟩, fun _ => h11, fun _ => rfl, fun _ => rfl, h.ord.2.2.2.1, fun _ => h15⟩
 ·have e' : L 11 = false := e
  rw [h11] at e'; cases e'
 ·have e' : L 11 = false := e
  rw [h11] at e'; cases e'
 ·have : g1 = k := by simpa [Value.ownBlock] using hk
  subst this
  exact k4 e
 ·rintro rfl
  rcases hnb with e | e
  ·exact k4 e
  ·omega
theorem S17.st21 (h : S17 P s a0 q vd p l v9 opn nb bs wr f L a w) (H : H17 P q wr) (h21 : L 21 = false) (h18 : L 18 = true) {v : Value} (hv : a.tmps[106]? = some v) (u : Value) : S17 P s a0 q vd p l v9 opn nb bs wr f (fun j => j == 21 || L j) (a.put none u) (w.setCell ⟨P, 6, none⟩ v) := by
 have h11 := h.ord.1 h18
 obtain ⟨x6, x7, b1, b2, b3, b4, b5⟩ := h.blk
 obtain ⟨g, c, g1, c1, k1, k2, k3, k4, k5⟩ := h.b1 h18
 obtain ⟨g1', c1', m1, m2, m3, _⟩ := h.p1 h11
 have n11 : ∀ e : L 11 = false, False := fun e => by rw [h11] at e; cases e
 have n18 : ∀ e : L 18 = false, False := fun e => by rw [h18] at e; cases e
 have hPw := H.Pw
 refine ⟨h.rest, h.fr.set (.inl (.inl rfl)) _ _, fun j x hx hj => ?_, ⟨v, x7, b1.set 6 v, fun e => (by cases e), b3, fun _ => hv, b5⟩, fun e => (n11 e).elim, fun _ e => (n11 e).elim, fun _ => ⟨g1', c1', m1, ownsRow_setCell m2 (fun e => ?_) _, m3, fun e => (n18 e).elim⟩, fun e => (n18 e).elim, fun _ e => (n18 e).elim, fun _ => ⟨g, c, g1, c1, k1, k2, ownsRow_setCell k3 (fun e => ?_) _, k4, k5⟩, fun _ => h11, fun _ => h18, h.ord.2.2⟩
 ·have hv := vals17_lt hx
  exact h.val j x hx (by rw [<- set_ne (L := L) hv.2.2.2.2.2]; exact hj)
 ·have hgP : g1' = P := by simpa [Value.ownBlock] using e
  rcases m3 with h1 | h1
  ·exact H.Pp (by rw [h1, hgP])
  ·omega
 ·have hgP : g = P := by simpa [Value.ownBlock] using e
  rcases k4 with h1 | h1
  ·exact H.Pb (by rw [h1, hgP])
  ·omega
theorem S17.st24 (h : S17 P s a0 q vd p l v9 opn nb bs wr f L a w) (H : H17 P q wr) (h18 : L 18 = true) {v : Value} (hv : a.tmps[113]? = some v) (u : Value) : S17 P s a0 q vd p l v9 opn nb bs wr f (fun j => j == 24 || L j) (a.put none u) (w.setCell ⟨P, 7, none⟩ v) := by
 have h11 := h.ord.1 h18
 obtain ⟨x6, x7, b1, b2, b3, b4, b5⟩ := h.blk
 obtain ⟨g, c, g1, c1, k1, k2, k3, k4, k5⟩ := h.b1 h18
 obtain ⟨g1', c1', m1, m2, m3, _⟩ := h.p1 h11
 have n11 : ∀ e : L 11 = false, False := fun e => by rw [h11] at e; cases e
 have n18 : ∀ e : L 18 = false, False := fun e => by rw [h18] at e; cases e
 have hPw := H.Pw
 refine ⟨h.rest, h.fr.set (.inl (.inl rfl)) _ _, fun j x hx hj => ?_, ⟨x6, v, b1.set 7 v, b2, fun e => (by cases e), b4, fun _ => hv⟩, fun e => (n11 e).elim, fun _ e => (n11 e).elim, fun _ => ⟨g1', c1', m1, ownsRow_setCell m2 (fun e => ?_) _, m3, fun e => (n18 e).elim⟩, fun e => (n18 e).elim, fun _ e => (n18 e).elim, fun _ => ⟨g, c, g1, c1, k1, k2, ownsRow_setCell k3 (fun e => ?_) _, k4, k5⟩, fun _ => h11, h.ord.2.1, fun _ => h18, h.ord.2.2.2⟩
 ·have hv := vals17_lt hx
  exact h.val j x hx (by rw [<- set_ne (L := L) (show j ≠ 24 by omega)]; exact hj)
 ·have hgP : g1' = P := by simpa [Value.ownBlock] using e
  rcases m3 with h1 | h1
  ·exact H.Pp (by rw [h1, hgP])
  ·omega
 ·have hgP : g = P := by simpa [Value.ownBlock] using e
  rcases k4 with h1 | h1
  ·exact H.Pb (by rw [h1, hgP])
  ·omega
end
end
section
open Go.RowKit
theorem not_t {b : Bool} (h : ¬ b = true) : b = false := by simpa using h
theorem info84 : (Tryz.prog.info? 84).map (fun i => (i.zero, i.size, i.bytes)) = some (some (.slice none 0 0), 1, 24) := by kernel_rfl
theorem news_any {W : World} {k : Nat} {v : Value} {T : TypeId} (h : Blk W k #[v] T) : ∀ j u, [v][j]? = some u -> W.cell? ((⟨k, 0, none⟩ : Addr).add j) = some u := by
 intro j u hj
 rw [Lib.addr_add, h.cell]
 simpa using hj
theorem reg135_do {P : Nat} {s : ByteArray} {a0 : Nat} {q : PV} {vd : Int} {p l : ByteArray} {v9 : Value} {opn : List ByteArray} {nb : Nat} {bs : List Value} {wr : World} {f : Act} (H : H17 P q wr) (hsz : f.tmps.size = 182)
  (f0 : f.tmps[0]? = some (.pointer (some ⟨P, 0, none⟩))) (f7 : f.tmps[7]? = some (.string p)) (f8 : f.tmps[8]? = some (.string l)) (f9 : f.tmps[9]? = some v9) (hv9 : ∃ p9 n9 c9, v9 = .slice p9 n9 c9)
  (hB : PB wr P s a0 q vd) (hp : wr.ownsRow 0 9 1 q.pv opn.length (opn.map .string)) (hb : wr.ownsRow 0 84 1 q.bv nb bs) (hn : opn.length <= 900000) (hnb : nb <= 900000) (hps : p.size <= 1000000) (hls : l.size <= 1000000)
  {Q : Exit -> Act -> World -> Prop} (hQ : ∀ a w, S17 P s a0 q vd p l v9 opn nb bs wr f (fun _ => true) a w -> Q .normal a w) : reg135.wp Tryz.prog Q f wr := by
 conv => arg 2; whnf
 refine wp_region_inv (S17 P s a0 q vd p l v9 opn nb bs wr f) (by kernel_rfl) (by kernel_rfl) (fun L L' a w e h => h.congr e) ?_ ?_ hQ
 ·exact ⟨Rest.refl _ _ _, (Fr.refl _ wr).drew, fun i v _ h => (by cases h), ⟨_, _, hB.keep (show Old wr _ from (Fr.refl _ wr).drew) (fun h => h), fun _ => rfl, fun _ => rfl, fun h => (by cases h), fun h => (by cases h)⟩, fun _ => ownsRow_frame hp (show Old wr _ from (Fr.refl _ wr).drew) (fun _ _ h => h), fun h => (by cases h), fun h => (by cases h), fun _ => ownsRow_frame hb (show Old wr _ from (Fr.refl _ wr).drew) (fun _ _ h => h), fun h => (by cases h), fun h => (by cases h), ⟨fun h => (by cases h), fun h => (by cases h), fun h => (by cases h), fun h => (by cases h), fun h => (by cases h)⟩⟩
 ·refine ⟨?_, ?_, ?_, ?_, ?_, ?_, ?_, ?_, ?_, ?_, ?_, ?_, ?_, ?_, ?_, ?_, ?_, ?_, ?_, ?_, ?_, ?_, ?_, ?_, ?_, trivial⟩
  all_goals intro L a w hk hd hS K hK
  all_goals have e0 : a.tmps[0]? = some (.pointer (some ⟨P, 0, none⟩)) := (hS.rest.slot 0 (.inl (by decide))).trans f0
  all_goals have e7 : a.tmps[7]? = some (.string p) := (hS.rest.slot 7 (.inl (by decide))).trans f7
  all_goals have e8 : a.tmps[8]? = some (.string l) := (hS.rest.slot 8 (.inl (by decide))).trans f8
  all_goals have e9 : a.tmps[9]? = some v9 := (hS.rest.slot 9 (.inl (by decide))).trans f9
  ·
   refine op_value rfl (w' := w) ?_ (hK _ _ (hS.pure hsz 0 _ rfl))
   clear hK hS hd
   go_simp
  ·
   refine op_value rfl (w' := w) ?_ (hK _ _ (hS.pure hsz 1 _ rfl))
   clear hK hS hd
   go_simp
  ·
   refine op_value rfl (w' := w) ?_ (hK _ _ (hS.pure hsz 2 _ rfl))
   clear hK hS hd
   go_simp
  ·
   have x2 := hS.val 2 _ rfl (hd 2 (by decide))
   rw [show sl17 2 = 97 from rfl] at x2
   refine op_value rfl (w' := w) ?_ (hK _ _ (hS.pure hsz 3 _ rfl))
   clear hK hS hd e0 e7 e8 e9
   go_simp
  ·
   have x3 := hS.val 3 _ rfl (hd 3 (by decide))
   rw [show sl17 3 = 98 from rfl] at x3
   refine op_value rfl (w' := w) ?_ (hK _ _ (hS.pure hsz 4 _ rfl))
   clear hK hS hd e0 e7 e8 e9
   go_simp
  ·
   have x4 := hS.val 4 _ rfl (hd 4 (by decide))
   rw [show sl17 4 = 99 from rfl] at x4
   obtain ⟨x6, x7, b1, b2, b3, b4, b5⟩ := hS.blk
   have c6 := b1.c.2.2.2.2.2.2.1
   rw [b2 (not_t fun e => by have h1 := hS.ord.2.2.2.1 (hS.ord.1 (hS.ord.2.1 e)); have h2 : L 5 = false := hk; rw [h1] at h2; cases h2)] at c6
   dsimp only at c6
   refine op_value rfl (w' := w) ?_ (hK _ _ (hS.pure hsz 5 _ rfl))
   clear hK hS hd e0 e7 e8 e9
   go_simp
  ·
   refine op_value rfl (w' := w) ?_ (hK _ _ (hS.pure hsz 6 _ rfl))
   clear hK hS hd
   go_simp
  ·
   have x6 := hS.val 6 _ rfl (hd 6 (by decide))
   rw [show sl17 6 = 101 from rfl] at x6
   have hadd1 : ∀ w1, (Op.stringOp .add p ⟨#[58]⟩).run Tryz.prog w1 = .ok (.string (p ++ ⟨#[58]⟩)) w1 := fun w1 => run_string_add_sum w1 _ _ (by have : (ByteArray.mk #[58]).size = 1 := rfl; omega)
   refine op_value rfl (w' := w) ?_ (hK _ _ (hS.pure hsz 7 _ rfl))
   clear hK hS hd e0 e7 e8 e9
   go_simp
  ·
   refine op_value rfl (w' := w) ?_ (hK _ _ (hS.pure hsz 8 _ rfl))
   clear hK hS hd
   go_simp
  ·
   have x7 := hS.val 7 _ rfl (hd 7 (by decide))
   rw [show sl17 7 = 102 from rfl] at x7
   have x8 := hS.val 8 _ rfl (hd 8 (by decide))
   rw [show sl17 8 = 103 from rfl] at x8
   have hadd2 : ∀ w1, (Op.stringOp .add (p ++ ⟨#[58]⟩) l).run Tryz.prog w1 = .ok (.string (colon p l)) w1 := fun w1 => run_string_add_sum w1 _ _ (by have : (ByteArray.mk #[58]).size = 1 := rfl; rw [ByteArray.size_append]; omega)
   refine op_value rfl (w' := w) ?_ (hK _ _ (hS.pure hsz 9 _ rfl))
   clear hK hS hd e0 e7 e8 e9
   go_simp
  ·
   have x9 := hS.val 9 _ rfl (hd 9 (by decide))
   rw [show sl17 9 = 104 from rfl] at x9
   refine op_value rfl (w' := w.alloc (.cells #[.string (colon p l)] 9)) (v := .slice (some ⟨w.heap.size, 0, none⟩) 1 1) ?_ (hK _ _ (hS.st10 hsz))
   clear hK hS hd e0 e7 e8 e9
   go_simp
  ·
   have x5 := hS.val 5 _ rfl (hd 5 (by decide))
   rw [show sl17 5 = 100 from rfl] at x5
   have h11 : L 11 = false := hk
   obtain ⟨k, x10, hk1, hk2⟩ := hS.pA (hd 10 (by decide)) h11
   obtain ⟨i9, hi9, hz90, hz91, hz92⟩ := info_parts info9
   refine step_append (by rfl) _ _ _ (by rfl) 9 i9 _ 1 16 Tryz.underlying39 hi9 hz90 hz91 hz92 rfl (by decide) q.pv opn.length _ (eval_slot x5) (hS.p0 h11) _ 1 1 [.string (colon p l)] (eval_slot x10) (by rfl) (by decide) (news_any hk1) (by intro u hu; simp at hu; subst hu; rfl) (by unfold maxLen; omega) (by omega) ?_
   intro g' c' w10 hrow' hgrow hnb
   exact hK _ _ (hS.st11 H hsz h11 (hd 5 (by decide)) hrow' hgrow hnb)
  ·
   refine op_value rfl (w' := w) ?_ (hK _ _ (hS.pure hsz 12 _ rfl))
   clear hK hS hd
   go_simp
  ·
   have x12 := hS.val 12 _ rfl (hd 12 (by decide))
   rw [show sl17 12 = 107 from rfl] at x12
   refine op_value rfl (w' := w) ?_ (hK _ _ (hS.pure hsz 13 _ rfl))
   clear hK hS hd e0 e7 e8 e9
   go_simp
  ·
   have x13 := hS.val 13 _ rfl (hd 13 (by decide))
   rw [show sl17 13 = 108 from rfl] at x13
   refine op_value rfl (w' := w) ?_ (hK _ _ (hS.pure hsz 14 _ rfl))
   clear hK hS hd e0 e7 e8 e9
   go_simp
  ·
   have x14 := hS.val 14 _ rfl (hd 14 (by decide))
   rw [show sl17 14 = 109 from rfl] at x14
   obtain ⟨x6, x7, b1, b2, b3, b4, b5⟩ := hS.blk
   have c7 := b1.c.2.2.2.2.2.2.2.1
   rw [b3 (not_t fun e => by have h1 := hS.ord.2.2.2.2 (hS.ord.2.2.1 e); have h2 : L 15 = false := hk; rw [h1] at h2; cases h2)] at c7
   dsimp only at c7
   refine op_value rfl (w' := w) ?_ (hK _ _ (hS.pure hsz 15 _ rfl))
   clear hK hS hd e0 e7 e8 e9
   go_simp
  ·
   refine op_value rfl (w' := w) ?_ (hK _ _ (hS.pure hsz 16 _ rfl))
   clear hK hS hd
   go_simp
  ·
   have x16 := hS.val 16 _ rfl (hd 16 (by decide))
   rw [show sl17 16 = 111 from rfl] at x16
   refine op_value rfl (w' := w.alloc (.cells #[v9] 84)) (v := .slice (some ⟨w.heap.size, 0, none⟩) 1 1) ?_ (hK _ _ (hS.st17 hsz))
   clear hK hS hd e0 e7 e8 e9
   obtain ⟨p9, n9, c9, rfl⟩ := hv9
   go_simp
  ·
   have x15 := hS.val 15 _ rfl (hd 15 (by decide))
   rw [show sl17 15 = 110 from rfl] at x15
   have h18 : L 18 = false := hk
   obtain ⟨k, x17, hk1, hk2⟩ := hS.bA (hd 17 (by decide)) h18
   obtain ⟨i84, hi84, hz840, hz841, hz842⟩ := info_parts info84
   have hone : v9.oneCell' = true := by obtain ⟨p9, n9, c9, rfl⟩ := hv9; rfl
   refine step_append (by rfl) _ _ _ (by rfl) 84 i84 _ 1 24 Tryz.underlying86 hi84 hz840 hz841 hz842 rfl (by decide) q.bv nb _ (eval_slot x15) (hS.b0 h18) _ 1 1 [v9] (eval_slot x17) (by rfl) (by decide) (news_any hk1) (by intro u hu; simp at hu; subst hu; exact hone) (by unfold maxLen; omega) (by omega) ?_
   intro g' c' w10 hrow' hgrow hnb
   exact hK _ _ (hS.st18 H hsz h18 (hd 11 (by decide)) (hd 15 (by decide)) hrow' hgrow hnb)
  ·
   have x0 := hS.val 0 _ rfl (hd 0 (by decide))
   rw [show sl17 0 = 95 from rfl] at x0
   refine op_value rfl (w' := w) ?_ (hK _ _ (hS.pure hsz 19 _ rfl))
   clear hK hS hd e0 e7 e8 e9
   go_simp
  ·
   have x19 := hS.val 19 _ rfl (hd 19 (by decide))
   rw [show sl17 19 = 114 from rfl] at x19
   refine op_value rfl (w' := w) ?_ (hK _ _ (hS.pure hsz 20 _ rfl))
   clear hK hS hd e0 e7 e8 e9
   go_simp
  ·
   have x20 := hS.val 20 _ rfl (hd 20 (by decide))
   rw [show sl17 20 = 115 from rfl] at x20
   have h18 : L 18 = true := hd 18 (by decide)
   obtain ⟨g, c, x11, _⟩ := hS.p1 (hd 11 (by decide))
   obtain ⟨x6, x7, b1, _⟩ := hS.blk
   have c6 := b1.c.2.2.2.2.2.2.1
   have f6 := b1.fz 6
   refine op_skip rfl (w' := w.setCell ⟨P, 6, none⟩ (.slice (some ⟨g, 0, none⟩) (opn.length + 1) c)) ?_ (hK _ _ (hS.st21 H hk h18 x11 _))
   clear hK hS hd e0 e7 e8 e9
   go_simp
  ·
   have x1 := hS.val 1 _ rfl (hd 1 (by decide))
   rw [show sl17 1 = 96 from rfl] at x1
   refine op_value rfl (w' := w) ?_ (hK _ _ (hS.pure hsz 22 _ rfl))
   clear hK hS hd e0 e7 e8 e9
   go_simp
  ·
   have x22 := hS.val 22 _ rfl (hd 22 (by decide))
   rw [show sl17 22 = 116 from rfl] at x22
   refine op_value rfl (w' := w) ?_ (hK _ _ (hS.pure hsz 23 _ rfl))
   clear hK hS hd e0 e7 e8 e9
   go_simp
  ·
   have x23 := hS.val 23 _ rfl (hd 23 (by decide))
   rw [show sl17 23 = 117 from rfl] at x23
   have h18 : L 18 = true := hd 18 (by decide)
   obtain ⟨g, c, g1, c1, x18, _⟩ := hS.b1 h18
   obtain ⟨x6, x7, b1, _⟩ := hS.blk
   have c7 := b1.c.2.2.2.2.2.2.2.1
   have f7 := b1.fz 7
   refine op_skip rfl (w' := w.setCell ⟨P, 7, none⟩ (.slice (some ⟨g, 0, none⟩) (nb + 1) c)) ?_ (hK _ _ (hS.st24 H h18 x18 _))
   clear hK hS hd e0 e7 e8 e9
   go_simp
structure R17 (P : Nat) (s : ByteArray) (a0 : Nat) (q : PV) (vd : Int) (p l : ByteArray) (v9 : Value) (opn : List ByteArray) (nb : Nat) (bs : List Value) (wr wx : World) : Prop where
 ex : ∃ pv' bv', PB wx P s a0 ⟨q.ov, pv', bv'⟩ vd /\ Fr (fun x => x = P \/ q.pv.ownBlock = some x \/ q.bv.ownBlock = some x) wr wx /\ wx.ownsRow 0 9 1 pv' (opn.length + 1) (opn.map .string ++ [.string (colon p l)]) /\ wx.ownsRow 0 84 1 bv' (nb + 1) (bs ++ [v9]) /\
  (∀ k, pv'.ownBlock = some k -> q.pv.ownBlock = some k \/ wr.heap.size <= k) /\ (∀ k, bv'.ownBlock = some k -> q.bv.ownBlock = some k \/ wr.heap.size <= k) /\ ∀ k, pv'.ownBlock = some k -> ¬ bv'.ownBlock = some k
theorem S17.fin {P : Nat} {s : ByteArray} {a0 : Nat} {q : PV} {vd : Int} {p l : ByteArray} {v9 : Value} {opn : List ByteArray} {nb : Nat} {bs : List Value} {wr : World} {f : Act} {a : Act} {w : World} (h : S17 P s a0 q vd p l v9 opn nb bs wr f (fun _ => true) a w) : R17 P s a0 q vd p l v9 opn nb bs wr w := by
 obtain ⟨x6, x7, b1, _, _, b4, b5⟩ := h.blk
 obtain ⟨g1, c1, k1, k2, k3, _⟩ := h.p1 rfl
 obtain ⟨g, c, g1', c1', m1, m2, m3, m4, m5⟩ := h.b1 rfl
 obtain rfl := Option.some.inj ((b4 rfl).symm.trans k1)
 obtain rfl := Option.some.inj ((b5 rfl).symm.trans m1)
 have e := Option.some.inj (k1.symm.trans m2)
 have e2 : g1 = g1' := by injection e with e1; injection e1 with e1; injection e1
 subst e2
 refine ⟨_, _, b1, h.fr, k2, m3, fun k hk => ?_, fun k hk => ?_, fun k hk hk2 => ?_⟩
 ·have : g1 = k := by simpa [Value.ownBlock] using hk
  subst this; exact k3
 ·have : g = k := by simpa [Value.ownBlock] using hk
  subst this; exact m4
 ·have e1 : g1 = k := by simpa [Value.ownBlock] using hk
  have e2 : g = k := by simpa [Value.ownBlock] using hk2
  exact m5 (e1.trans e2.symm)
theorem R17.sq {P : Nat} {s : ByteArray} {base a0 : Nat} {q : PV} {vd : Int} {gs : List GT} {p l : ByteArray} {v9 : Value} {opn : List ByteArray} {bnd : List (List (ByteArray × ByteArray))} {bs : List Value} {w wr wx : World} (hq : SQ P s base w a0 q vd gs opn bnd) (ho : Old w wr) (hbase : base <= w.heap.size) (hB : BndG w (SA P q) bnd bs) {prs : List (ByteArray × ByteArray)}
  (hv : wr.ownsRow 0 275 2 v9 prs.length (prC prs)) (T : Nat) (hT : w.heap.size = T) (hTr : T < wr.heap.size) (hvo : ∀ k, v9.ownBlock = some k -> T < k) (hvl : prs.length <= 1000000) (h : R17 P s a0 q vd p l v9 opn bnd.length bs wr wx) :
  ∃ q', (∀ wy, Fr (fun x => x = T) wx wy -> SQ P s base wy a0 q' vd gs (opn ++ [colon p l]) (bnd ++ [prs])) /\ GoP P q w q' wx /\ ∀ x, SO P q' x -> x ≠ T := by
 obtain ⟨pv', bv', bP, fP, rp, rb, np, nbv, dj⟩ := h.ex
 have hlt := hq.lt
 have hww := ho.size
 have f2 : Fr (fun x => x = P \/ q.pv.ownBlock = some x \/ q.bv.ownBlock = some x) w wx := (Fr.of_old ho).trans fP (fun x hx => .inl hx)
 have hnw : ∀ x, SO P ⟨q.ov, pv', bv'⟩ x -> SO P q x \/ wr.heap.size <= x := by
  rintro x (hx | hx | hx | hx)
  ·exact .inl (.inl hx)
  ·exact .inl (.inr (.inl hx))
  ·exact (np x hx).imp (fun h => .inr (.inr (.inl h))) id
  ·exact (nbv x hx).imp (fun h => .inr (.inr (.inr h))) id
 have hST : ∀ x, SO P ⟨q.ov, pv', bv'⟩ x -> x ≠ T := fun x hx e => by
  rcases hnw x hx with h5 | h5
  ·have := hlt x h5; omega
  ·omega
 refine ⟨⟨q.ov, pv', bv'⟩, fun wy fy => ?_, ⟨f2.mono (fun x hx => .inl (hx.elim .inl (fun e => .inr (.inr e)))), fun x hx => (hnw x hx).imp id (fun h => by omega)⟩, hST⟩
 have fPy : Fr (fun x => (x = P \/ q.pv.ownBlock = some x \/ q.bv.ownBlock = some x) \/ x = T) wr wy := (fP.mono (fun x hx => .inl (.inl hx))).trans fy (fun x hx => .inl (.inr hx))
 have f2y : Fr (fun x => x = P \/ q.pv.ownBlock = some x \/ q.bv.ownBlock = some x) w wy := f2.trans fy (fun x hx => .inr (by omega))
 have hA : ∀ k, k < w.heap.size -> SA P q k -> ¬ (k = P \/ q.pv.ownBlock = some k \/ q.bv.ownBlock = some k) /\ SA P ⟨q.ov, pv', bv'⟩ k := fun k hk hs => ⟨fun e => hs (e.elim .inl (fun e => .inr (.inr e))), fun e => (hnw k e).elim hs (fun h => by omega)⟩
 obtain ⟨cs, h1, h2⟩ := hq.out
 have hvF : ∀ k, v9.ownBlock = some k -> ¬ ((k = P \/ q.pv.ownBlock = some k \/ q.bv.ownBlock = some k) \/ k = T) := fun k hk e => by
  have h3 := hvo k hk
  rcases e with e | e
  ·have h4 := hlt k (e.elim .inl (fun e => .inr (.inr e)))
   omega
  ·omega
 have hPG : PairG wy (SA P ⟨q.ov, pv', bv'⟩) v9 prs := by
  refine ⟨ownsRow_frame hv fPy hvF, fun k hk e => ?_, hvl⟩
  have h3 := ownsRow_lt hv hk
  have h4 := hvo k hk
  rcases hnw k e with h5 | h5
  ·have := hlt k h5; omega
  ·omega
 refine ⟨bP.keep fy (fun e => hST P (.inl rfl) e), ⟨cs, ownsRow_frame h1 f2y (fun k hk e => ?_), h2.keep f2y hA⟩, ?_, ⟨bs ++ [v9], ?_, BndG.app hPG (hB.keep f2y hA)⟩, fun k hk => ?_, fun k hk => ?_, fun k hk => ?_, fun x hx => ?_⟩
 ·have := hq.do_ k hk
  rcases e with e | e | e
  ·exact this.1 e
  ·exact this.2.1 e
  ·exact this.2.2 e
 ·have e1 : (opn ++ [colon p l]).length = opn.length + 1 := by simp
  have e2 : (opn ++ [colon p l]).map Value.string = opn.map .string ++ [.string (colon p l)] := by simp
  show wy.ownsRow 0 9 1 pv' _ _
  rw [e1, e2]; exact ownsRow_frame rp fy (fun k hk => hST k (.inr (.inr (.inl hk))))
 ·have e1 : (bnd ++ [prs]).length = bnd.length + 1 := by simp
  show wy.ownsRow 0 84 1 bv' _ _
  rw [e1]; exact ownsRow_frame rb fy (fun k hk => hST k (.inr (.inr (.inr hk))))
 ·have h3 := hq.do_ k hk
  have h4 := hlt k (.inr (.inl hk))
  refine ⟨h3.1, fun e => ?_, fun e => ?_⟩
  ·rcases np k e with h5 | h5
   ·exact h3.2.1 h5
   ·omega
  ·rcases nbv k e with h5 | h5
   ·exact h3.2.2 h5
   ·omega
 ·refine ⟨?_, dj k hk⟩
  rcases np k hk with h5 | h5
  ·exact (hq.dp k h5).1
  ·have := hlt P (.inl rfl); omega
 ·rcases nbv k hk with h5 | h5
  ·exact hq.db k h5
  ·have := hlt P (.inl rfl); omega
 ·rcases hnw x hx with h5 | h5
  ·exact hq.lo x h5
  ·omega
theorem list23 {us : List Value} (h : us.length = 23) : ∃ u0 u1 u2 u3 u4 u5 u6 u7 u8 u9 u10 u11 u12 u13 u14 u15 u16 u17 u18 u19 u20 u21 u22, us = [u0, u1, u2, u3, u4, u5, u6, u7, u8, u9, u10, u11, u12, u13, u14, u15, u16, u17, u18, u19, u20, u21, u22] := by
 match us, h with
 | [u0, u1, u2, u3, u4, u5, u6, u7, u8, u9, u10, u11, u12, u13, u14, u15, u16, u17, u18, u19, u20, u21, u22], _ => exact ⟨_, _, _, _, _, _, _, _, _, _, _, _, _, _, _, _, _, _, _, _, _, _, _, rfl⟩
end
section
open Go.RowKit
def gtOf : Tk -> GT
 | .st nm kv => ⟨1, ⟨#[]⟩, nameB nm, kv.map fun x => ((⟨#[]⟩ : ByteArray), nameB x.1, nameB x.2), ⟨#[]⟩, 0⟩
 | .en nm => ⟨2, ⟨#[]⟩, nameB nm, [], ⟨#[]⟩, 0⟩
 | .tx rs => ⟨3, ⟨#[]⟩, ⟨#[]⟩, [], nameB rs, 0⟩
 | .cm d => ⟨4, ⟨#[]⟩, ⟨#[]⟩, [], ⟨d.toArray⟩, 0⟩
 | .pi nm d => ⟨5, ⟨#[]⟩, nameB nm, [], ⟨d.toArray⟩, 0⟩
def GT.er (g : GT) : GT := { g with pos := 0 }
def addG (l : List GT) (t : GT) : List GT :=
 if t.kind = 3 /\ t.txt.size = 0 then l
 else match l.getLast? with
  | some u => if t.kind = 3 /\ u.kind = 3 then l.dropLast ++ [{ u with txt := u.txt ++ t.txt, pos := t.pos }] else l ++ [t]
  | none => l ++ [t]
def mergeG (l : List GT) : List GT := l.foldl addG []
theorem nameB_app (a b : List Nat) : nameB a ++ nameB b = nameB (a ++ b) := by
 apply bytes_eq
 simp [nameB, nb]
theorem nameB_zero {rs : List Nat} : (nameB rs).size = 0 ↔ rs = [] := by
 have e : (nameB rs).size = (nb rs).length := by rw [Lib.size_eq]; rfl
 rw [e]
 constructor
 ·intro h
  have := nb_len_ge rs
  exact List.length_eq_zero_iff.1 (by omega)
 ·rintro rfl; rfl
theorem addG_tx {l : List GT} {m : List Tk} (h : l.map GT.er = m.map gtOf) {t : GT} {u : Tk} (ht : t.er = gtOf u) : (addG l t).map GT.er = (addT m u).map gtOf := by
 have hk : t.kind = (gtOf u).kind := by rw [<- ht]; rfl
 have hx : t.txt = (gtOf u).txt := by rw [<- ht]; rfl
 have hplain : ∀ (hu : u.isTx = false), (addG l t).map GT.er = (addT m u).map gtOf := by
  intro hu
  have h3 : ¬ t.kind = 3 := by rw [hk]; cases u <;> first | (cases hu; done) | (simp [gtOf])
  have e1 : addG l t = l ++ [t] := by
   unfold addG
   rw [if_neg (fun e => h3 e.1)]
   cases l.getLast? with
   | none => rfl
   | some u => simp only []; rw [if_neg (fun e => h3 e.1)]
  have e2 : addT m u = m ++ [u] := by cases u <;> first | (cases hu; done) | rfl
  rw [e1, e2, List.map_append, List.map_append, h]
  simp [ht]
 cases u with
 | tx rs =>
  have hk : t.kind = 3 := hk
  have hx : t.txt = nameB rs := hx
  by_cases hrs : rs = []
  ·have e1 : addG l t = l := by unfold addG; rw [if_pos ⟨hk, by rw [hx]; exact nameB_zero.2 hrs⟩]
   have e2 : addT m (.tx rs) = m := by simp [addT, hrs]
   rw [e1, e2, h]
  ·have hz : ¬ (t.kind = 3 /\ t.txt.size = 0) := fun e => hrs (nameB_zero.1 (by rw [<- hx]; exact e.2))
   rcases List.eq_nil_or_concat m with rfl | ⟨m0, v, rfl⟩
   ·have hl : l = [] := by cases l with
     | nil => rfl
     | cons a b => simp at h
    subst hl
    have e1 : addG [] t = [t] := by unfold addG; rw [if_neg hz]; rfl
    have e2 : addT [] (.tx rs) = [.tx rs] := by simp [addT, hrs]
    rw [e1, e2]; simp [ht]
   ·rcases List.eq_nil_or_concat l with rfl | ⟨l0, g, rfl⟩
    ·simp at h
    ·simp only [List.concat_eq_append] at h ⊢
     have h' : l0.map GT.er = m0.map gtOf /\ g.er = gtOf v := by
      rw [List.map_append, List.map_append] at h
      have := List.append_inj' h (by simp)
      exact ⟨this.1, by simpa using this.2⟩
     have e1 : addG (l0 ++ [g]) t = if t.kind = 3 /\ g.kind = 3 then l0 ++ [{ g with txt := g.txt ++ t.txt, pos := t.pos }] else l0 ++ [g] ++ [t] := by
      unfold addG
      rw [if_neg hz]
      simp
     have hgk : g.kind = (gtOf v).kind := by rw [<- h'.2]; rfl
     have hgx : g.txt = (gtOf v).txt := by rw [<- h'.2]; rfl
     rw [e1]
     by_cases hv : v.isTx = true
     ·cases v with
      | tx r0 =>
       have hgk : g.kind = 3 := hgk
       have hgx : g.txt = nameB r0 := hgx
       rw [if_pos ⟨hk, hgk⟩]
       have e2 : addT (m0 ++ [.tx r0]) (.tx rs) = m0 ++ [.tx (r0 ++ rs)] := by simp [addT, hrs]
       rw [e2, List.map_append, List.map_append, h'.1]
       congr 1
       have hg := h'.2
       show [_] = [_]
       congr 1
       simp only [GT.er, gtOf] at hg ⊢
       injection hg with a1 a2 a3 a4 a5 a6
       rw [a1, a2, a3, a4, a5, hx, nameB_app]
      | _ => cases hv
     ·have hg3 : ¬ g.kind = 3 := by
       rw [hgk]
       cases v <;> first | (exact absurd rfl hv) | (simp [gtOf])
      rw [if_neg (fun e => hg3 e.2)]
      have e2 : addT (m0 ++ [v]) (.tx rs) = m0 ++ [v] ++ [.tx rs] := by
       cases v <;> first | (exact absurd rfl hv) | (simp [addT, hrs])
      rw [e2]
      simp only [List.map_append] at h ⊢
      rw [h]
      simp [ht]
 | st nm kv => exact hplain rfl
 | en nm => exact hplain rfl
 | cm d => exact hplain rfl
 | pi nm d => exact hplain rfl
theorem mergeG_fold : ∀ (gs : List GT) (tks : List Tk) (l : List GT) (m : List Tk), gs.map GT.er = tks.map gtOf -> l.map GT.er = m.map gtOf -> (gs.foldl addG l).map GT.er = (tks.foldl addT m).map gtOf := by
 intro gs
 induction gs with
 | nil =>
  intro tks l m h hl
  cases tks with
  | nil => exact hl
  | cons a b => simp at h
 | cons g gs ih =>
  intro tks l m h hl
  cases tks with
  | nil => simp at h
  | cons t tks =>
   rw [List.map_cons, List.map_cons] at h
   injection h with h1 h2
   exact ih tks _ _ h2 (addG_tx hl h1)
theorem mergeG_of {gs : List GT} {tks : List Tk} (h : gs.map GT.er = tks.map gtOf) : (mergeG gs).map GT.er = (merge tks).map gtOf := mergeG_fold gs tks [] [] h rfl
end
end Go.Proofs.YtepbbahdhhjibaaGreatDoor
