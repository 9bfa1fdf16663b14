/- own text -/
import Derived.Deep.CutRange
import Derived.Test.YtepbbahdhhjibaaGreatDoorD25
import Derived.Test.YtepbbahdhhjibaaGreatDoorD26
namespace Go.Proofs.YtepbbahdhhjibaaGreatDoor
set_option linter.unusedSimpArgs false
set_option linter.unusedVariables false
set_option maxHeartbeats 4000000
set_option maxRecDepth 100000
section
open Go.RowKit
theorem kvCells_len (kv : List (List Nat × List Nat)) : (kvCells kv).length = kv.length * 3 := by
 induction kv with
 | nil => rfl
 | cons x kv ih =>
  have : kvCells (x :: kv) = [.string ⟨#[]⟩, .string (nameB x.1), .string (nameB x.2)] ++ kvCells kv := rfl
  rw [this, List.length_append, ih, List.length_cons]; simp; omega
theorem kv_cells : ∀ (kv : List (List Nat × List Nat)) (i : Nat) (h : i < kv.length), (kvCells kv)[i * 3]? = some (.string ⟨#[]⟩) /\ (kvCells kv)[i * 3 + 1]? = some (.string (nameB kv[i].1)) /\ (kvCells kv)[i * 3 + 2]? = some (.string (nameB kv[i].2)) := by
 intro kv
 induction kv with
 | nil => intro i h; simp at h
 | cons x kv ih =>
  intro i h
  have e : kvCells (x :: kv) = [.string ⟨#[]⟩, .string (nameB x.1), .string (nameB x.2)] ++ kvCells kv := rfl
  rw [e]
  cases i with
  | zero => exact ⟨rfl, rfl, rfl⟩
  | succ i =>
   have := ih i (by simpa using h)
   rw [List.getElem?_append_right (by simp; omega), List.getElem?_append_right (by simp; omega), List.getElem?_append_right (by simp; omega)]
   simp only [List.length_cons, List.length_nil, List.getElem_cons_succ]
   rw [show (i + 1) * 3 - (0 + 1 + 1 + 1) = i * 3 by omega, show (i + 1) * 3 + 1 - (0 + 1 + 1 + 1) = i * 3 + 1 by omega, show (i + 1) * 3 + 2 - (0 + 1 + 1 + 1) = i * 3 + 2 by omega]
   exact this
theorem attrsOut_take {kv : List (List Nat × List Nat)} {i : Nat} (h : i < kv.length) : attrsOut (kv.take (i + 1)) = attrsOut (kv.take i) ++ attrOut kv[i] := by
 unfold attrsOut; rw [List.take_succ_eq_append_getElem h, List.flatMap_append]; simp
theorem attrsOut_le {kv : List (List Nat × List Nat)} {i : Nat} (h : i < kv.length) : (attrsOut (kv.take i)).length + (attrOut kv[i]).length <= (attrsOut kv).length := by
 have h1 : attrsOut kv = attrsOut (kv.take (i + 1)) ++ attrsOut (kv.drop (i + 1)) := by
  simp only [attrsOut, <- List.flatMap_append, List.take_append_drop]
 rw [h1, attrsOut_take h, List.length_append, List.length_append]; omega
theorem flat_le {α : Type} (f : α -> List UInt8) {x : α} : ∀ {l : List α}, x ∈ l -> (f x).length <= (l.flatMap f).length := by
 intro l
 induction l with
 | nil => intro h; cases h
 | cons y l ih =>
  intro h
  rw [List.flatMap_cons, List.length_append]
  rcases List.mem_cons.1 h with rfl | h
  ·omega
  ·have := ih h; omega
structure PG (X : Px) (w : World) (v : Pv) (T : Nat) (av : Value) (l : List UInt8) (kv : List (List Nat × List Nat)) (tags : List ByteArray) (S : Nat -> Prop) (o : List UInt8) (w1 : World) : Prop where
 a : At2 X w v S o tags w1
 sub : ∀ x, x = T \/ av.ownBlock = some x -> S x
 T : Blk w1 T #[.string ⟨#[]⟩, .string ⟨l.toArray⟩, av] 108
 r : w1.ownsRow 0 110 3 av kv.length (kvCells kv)
def PS0 (T : Nat) (av : Value) (x : Nat) : Prop := x = T \/ av.ownBlock = some x
theorem PG.next {X X2 : Px} {w : World} {v : Pv} {T : Nat} {av : Value} {l : List UInt8} {kv : List (List Nat × List Nat)} {tags : List ByteArray} {S : Nat -> Prop} {o o2 : List UInt8} {w1 w2 : World} (h : PG X w v T av l kv tags S o w1) (a : At2 X2 w v S o2 tags w2) (q : ∀ x, S x -> w2.heap[x]? = w1.heap[x]?) : PG X2 w v T av l kv tags S o2 w2 := by
 refine ⟨a, h.sub, (q T (h.sub T (.inl rfl))).trans h.T, h.r.1, ?_⟩
 rcases h.r.2 with hn | ⟨g, cap, cur, hv, hb, hg, rest⟩
 ·exact .inl hn
 ·exact .inr ⟨g, cap, cur, hv, hb, (q g (h.sub g (.inr (by rw [hv]; rfl)))).trans hg, rest⟩
theorem PG.less {X : Px} {w : World} {v : Pv} {T : Nat} {av : Value} {l : List UInt8} {kv : List (List Nat × List Nat)} {tags : List ByteArray} {S S' : Nat -> Prop} {o : List UInt8} {w1 : World} (h : PG X w v T av l kv tags S o w1) (hS : ∀ x, S' x -> S x) (hs : ∀ x, x = T \/ av.ownBlock = some x -> S' x) : PG X w v T av l kv tags S' o w1 := by
 obtain ⟨⟨v', h1, h2, h3⟩, _, h5, h6⟩ := h
 exact ⟨⟨v', h1, h2, fun x hx => h3 x (hS x hx)⟩, hs, h5, h6⟩
theorem PG.cells {X : Px} {w : World} {v : Pv} {T : Nat} {av : Value} {l : List UInt8} {kv : List (List Nat × List Nat)} {tags : List ByteArray} {S : Nat -> Prop} {o : List UInt8} {w1 : World} (h : PG X w v T av l kv tags S o w1) : w1.cell? ⟨T, 0, none⟩ = some (.string ⟨#[]⟩) /\ w1.cell? ⟨T, 1, none⟩ = some (.string ⟨l.toArray⟩) /\ w1.cell? ⟨T, 2, none⟩ = some av :=
 ⟨by rw [h.T.cell]; rfl, by rw [h.T.cell]; rfl, by rw [h.T.cell]; rfl⟩
structure PH (X : Px) (w : World) (v : Pv) (T : Nat) (av : Value) (l : List UInt8) (kv : List (List Nat × List Nat)) (tags : List ByteArray) (S : Nat -> Prop) (A : Nat) (n r : List UInt8) (o : List UInt8) (w1 : World) : Prop where
 g : PG X w v T av l kv tags S o w1
 sa : S A /\ S (A + 1)
 bA : Blk w1 A #[.string ⟨#[]⟩, .string ⟨n.toArray⟩, .string ⟨r.toArray⟩] 110
 bB : Blk w1 (A + 1) #[.string ⟨#[]⟩, .string ⟨n.toArray⟩] 105
def PHc (A : Nat) (n r : List UInt8) (w2 : World) : Prop := w2.cell? ⟨A + 1, 0, none⟩ = some (.string ⟨#[]⟩) /\ w2.cell? ⟨A + 1, 1, none⟩ = some (.string ⟨n.toArray⟩) /\ w2.cell? ⟨A, 2, none⟩ = some (.string ⟨r.toArray⟩)
theorem PH.next {X : Px} {w : World} {v : Pv} {T : Nat} {av : Value} {l : List UInt8} {kv : List (List Nat × List Nat)} {tags : List ByteArray} {S : Nat -> Prop} {A : Nat} {n r o o2 : List UInt8} {w1 w2 : World} (h : PH X w v T av l kv tags S A n r o w1) (a : At2 X w v S o2 tags w2 /\ ∀ x, S x -> w2.heap[x]? = w1.heap[x]?) : PHc A n r w2 /\ Hid (PH X w v T av l kv tags S A n r o2 w2) := by
 have hA : Blk w2 A #[.string ⟨#[]⟩, .string ⟨n.toArray⟩, .string ⟨r.toArray⟩] 110 := (a.2 _ h.sa.1).trans h.bA
 have hB : Blk w2 (A + 1) #[.string ⟨#[]⟩, .string ⟨n.toArray⟩] 105 := (a.2 _ h.sa.2).trans h.bB
 exact ⟨⟨by rw [hB.cell]; rfl, by rw [hB.cell]; rfl, by rw [hA.cell]; rfl⟩, h.g.next a.1 a.2, h.sa, hA, hB⟩
theorem pstart (X : Px) (v : Pv) (out : List UInt8) (tags : List ByteArray) (nm : List Nat) (kv : List (List Nat × List Nat)) (T : Nat) (av : Value) (w : World) (hne : nb nm ≠ [])
  (hT : Blk w T #[.string ⟨#[]⟩, .string (nameB nm), av] 108) (hTo : ¬ X.own v T) (hkv : w.ownsRow 0 110 3 av kv.length (kvCells kv)) (hAo : ∀ k, av.ownBlock = some k -> ¬ X.own v k) (hkn : kv.length <= 549755813888) (hnm : ∀ x ∈ kv, nb x.1 ≠ []) (hvl : ∀ x ∈ kv, (∀ r ∈ x.2, isCh r = true) /\ (nb x.2).length <= 1000000000)
  (hU : UT w) (h5 : ∀ x, X.own v x -> 5 <= x) (h5w : 5 <= w.heap.size) (h : Pr X w v false out tags) (htags : tags.length <= 549755813888) (hin : X.ind ≠ []) (hdp : X.iv.d <= 549755813888) (hl0 : out.length + (lead X.pre X.ind X.iv.nl X.iv.d).length + (startOut nm kv).length + 6 * (kv.flatMap fun x => nb x.2).length + 100 <= 1099511627776) :
  Calls Tryz.prog 51 #[.pointer (some ⟨X.P, 0, none⟩), .pointer (some ⟨T, 0, none⟩)] w fun e w' => e = .returned .nilIface /\ ∃ v', PSt X w v w' v' /\ Pr (X.at ⟨X.iv.d + 1, true, true⟩) w' v' false (out ++ (lead X.pre X.ind X.iv.nl X.iv.d ++ startOut nm kv)) (tags ++ [nameB nm]) := by
 have t0 := hT.cell 0
 have t1 := hT.cell 1
 have t2 := hT.cell 2
 simp at t0 t1 t2
 have hpa : ∃ pa ca, av = .slice pa kv.length ca := by
  rcases hkv.2 with ⟨h1, h2⟩ | ⟨g, cap, cur, h1, _⟩
  ·rw [h2]; exact ⟨_, _, h1⟩
  ·exact ⟨_, _, h1⟩
 obtain ⟨pa, ca, hpa⟩ := hpa
 subst hpa
 unfold nameB at hT t1 ⊢
 generalize hl : nb nm = l at *
 obtain ⟨_, _, _, _, c11, c12, c13, _⟩ := h.cells
 have f11 := h.D.fz 11
 have hie : l.isEmpty = false := by cases l with
  | nil => exact absurd rfl hne
  | cons a t => rfl
 obtain ⟨i0, hi, hz0, hz1, hz2⟩ := info_parts info105
 obtain ⟨tv, htv⟩ : ∃ tv, tv = v.tv := ⟨_, rfl⟩
 have htg := h.tg
 rw [<- htv] at c11 htg
 have hPtv : ¬ (tv.ownBlock = some X.P) := fun e => (h.nt _ (by rw [<- htv]; exact e)).1 rfl
 have hPw := h.D.lt
 have hTtv : ¬ (tv.ownBlock = some T) := fun e => hTo (.inr (.inr (.inr (by rw [<- htv]; exact e))))
 have hfa : ∀ o, (w.alloc o).frozen? ⟨X.P, 11, none⟩ = false := fun o => (h.D.alloc o).fz 11
 have hfad : ∀ o, (w.alloc o).drew.frozen? ⟨X.P, 11, none⟩ = false := fun o => (h.D.alloc o).fz 11
 replace h := zz h
 replace htg := zz htg
 replace htv := zz htv
 replace hT := zz hT
 replace hl := zz hl
 go_enter Tryz.func51, Tryz.ntmps51
 go_wp2
 go_cut [] from 15 to 27 (fun wx => ∃ tv', Blk wx X.P (prA X ⟨v.va, v.pv, tv'⟩ false) 103 /\ Fr (fun x => x = X.P \/ tv.ownBlock = some x) w wx /\ wx.ownsRow 0 105 2 tv' (tags.length + 1) (tagCells tags ++ [.string ⟨#[]⟩, .string ⟨l.toArray⟩]) /\ ∀ k, tv'.ownBlock = some k -> tv.ownBlock = some k \/ w.heap.size <= k)
 case first =>
  go_region_law (first | (refine step_append (by rfl) _ _ _ (by rfl) 105 i0 _ 2 32 Tryz.underlying99 hi hz0 hz1 hz2 rfl (by decide) tv tags.length _ (by rfl) (ownsRow_frame (F := fun _ => False) htg.out (((Fr.refl _ w).alloc _).drew) (fun _ _ h => h)) ⟨w.heap.size, 0, none⟩ 1 1 [.string ⟨#[]⟩, .string ⟨l.toArray⟩] (by rfl) (by rfl) (by decide) (news_alloc w [.string ⟨#[]⟩, .string ⟨l.toArray⟩] 105) (by intro u hu; simp at hu; rcases hu with rfl | rfl <;> rfl) (by unfold maxLen; omega) (by omega) ?_; intro g' c' w1 hrow' hgrow hnb; have f1 : Fr (fun x => tv.ownBlock = some x) w w1 := ((Fr.refl (fun x => tv.ownBlock = some x) w).alloc _).drew.grown hgrow (fun k hk => Or.inl hk); have b1 := Blk.keep (h.out.D) f1 hPtv; have bT := Blk.keep hT.out f1 hTtv; have k11 : w1.cell? ⟨X.P, 11, none⟩ = some tv := (by rw [htv.out, b1.cell]; rfl); have kf := b1.fz 11; have k0 : w1.cell? ⟨T, 0, none⟩ = some (.string ⟨#[]⟩) := (by rw [bT.cell]; rfl); have k1 : w1.cell? ⟨T, 1, none⟩ = some (.string ⟨l.toArray⟩) := (by rw [bT.cell]; rfl); replace hrow' := zz hrow'; replace hnb := zz hnb; replace f1 := zz f1; replace b1 := zz b1; replace bT := zz bT; clear hgrow))
  all_goals go_wp2_with fail
  all_goals go_meet
  all_goals refine ⟨_, b1.out.set 11 _, ?_, ownsRow_setCell hrow'.out (fun e => ?_) _, fun k hk => ?_⟩
  all_goals first
   | exact (f1.out.mono (G := fun x => x = X.P \/ tv.ownBlock = some x) (fun x hx => Or.inl (Or.inr hx))).set (Or.inl (Or.inl rfl)) _ _
   | (have hg' : g' = X.P := by simpa [Value.ownBlock] using e
      rcases hnb.out with h | h
      ·exact hPtv (by rw [h, hg'])
      ·simp at h; omega)
   | (have hk2 : k = g' := by simpa [Value.ownBlock, eq_comm] using hk
      subst hk2
      exact hnb.out.imp id (fun h => by simp at h; omega))
 case rest =>
  obtain ⟨tv', bP, fP, rP, nP⟩ := hcut
  have hPr := h.out
  have hW0 := hPr.W.keep fP (fun x hx e => e.elim (fun e => hPr.nP (e ▸ hx)) (fun e => (hPr.nt x (by rw [<- htv.out]; exact e)).2.1 hx))
  have hpf0 := ownsRow_frame hPr.pf fP (fun k hk e => e.elim (fun e => (hPr.np k hk).1 e) (fun e => (hPr.nt k (by rw [<- htv.out]; exact e)).2.2 hk))
  have hmk : Calls Tryz.prog 95 #[.pointer (some ⟨X.P, 0, none⟩)] wc fun e w2 => e = .returned (.tuple #[]) /\ Hid (PG X w v T (.slice pa kv.length ca) l kv (tags ++ [⟨l.toArray⟩]) (PS0 T (.slice pa kv.length ca)) out w2) := by
   refine (pmark X ⟨v.va, v.pv, tv'⟩ out tags.length wc htags bP hW0 hpf0 hPr.nP hPr.np).mono ?_
   rintro e w2 ⟨rfl, pv', k1, k2, k3, k4⟩
   refine ⟨rfl, ?_⟩
   have f2 : Fr (X.own v) w w2 := (fP.mono (fun x hx => Or.inl (hx.elim (fun h => .inl h) (fun h => .inr (.inr (.inr (by rw [<- htv.out]; exact h))))))).trans k2 (fun x hx => Or.inl (hx.elim (fun h => .inl h) (fun h => .inr (.inr (.inl h)))))
   have hown : ∀ x, X.own ⟨v.va, pv', tv'⟩ x -> X.own v x \/ w.heap.size <= x := by
    rintro x (hx | hx | hx | hx)
    ·exact .inl (.inl hx)
    ·exact .inl (.inr (.inl hx))
    ·exact (k4 x hx).imp (fun h => .inr (.inr (.inl h))) (fun h => Nat.le_trans fP.size h)
    ·exact (nP x hx).imp (fun h => .inr (.inr (.inr (by rw [<- htv.out]; exact h)))) id
   have hTw : T < w.heap.size := hT.out.lt
   have hEl : ∀ x, X.E.own v.va x -> x < w.heap.size := hPr.W.lt
   have hpl : ∀ x, v.pv.ownBlock = some x -> x < w.heap.size := fun x hx => ownsRow_lt hPr.pf hx
   have htl : ∀ x, tv.ownBlock = some x -> x < w.heap.size := fun x hx => ownsRow_lt htg.out hx
   have hPwc : X.P < wc.heap.size := bP.lt
   have hwc := fP.size
   have hnP' : ∀ k, pv'.ownBlock = some k -> k ≠ X.P /\ ¬ X.E.own v.va k := fun k hk => by
    rcases k4 k hk with h | h
    ·exact hPr.np k h
    ·exact ⟨by omega, fun h' => by have := hEl k h'; omega⟩
   refine ⟨⟨⟨v.va, pv', tv'⟩, ⟨f2, hown⟩, ⟨k1, hW0.keep k2 (fun x hx e => e.elim (fun e => hPr.nP (e ▸ hx)) (fun e => (hPr.np x e).2 hx)), ?_, ?_, hPr.nP, hnP', ?_⟩, ?_⟩, fun x hx => hx, hT.out.keep f2 hTo, ownsRow_frame hkv f2 (fun k hk => hAo k hk)⟩
   ·rw [show (tags ++ [ByteArray.mk l.toArray]).length = tags.length + 1 by simp]; exact k3
   ·rw [show (tags ++ [ByteArray.mk l.toArray]).length = tags.length + 1 by simp, tagCells_app]
    refine ownsRow_frame rP k2 (fun k hk e => ?_)
    rcases nP k hk with h | h
    ·exact e.elim (fun e => hPtv (e ▸ h)) (fun e => (hPr.nt k (by rw [<- htv.out]; exact h)).2.2 e)
    ·exact e.elim (fun e => by omega) (fun e => by have := hpl k e; omega)
   ·intro k hk
    rcases nP k hk with h | h
    ·have h' := hPr.nt k (by rw [<- htv.out]; exact h)
     refine ⟨h'.1, h'.2.1, fun e => ?_⟩
     rcases k4 k e with h2 | h2
     ·exact h'.2.2 h2
     ·have := htl k h; omega
    ·refine ⟨by omega, fun h' => by have := hEl k h'; omega, fun e => ?_⟩
     rcases k4 k e with h2 | h2
     ·have := hpl k h2; omega
     ·have := ownsRow_lt rP hk; omega
   ·intro x hx
    have hxo : ¬ X.own v x := hx.elim (fun h => h ▸ hTo) (fun h => hAo x h)
    have hxl : x < w.heap.size := hx.elim (fun h => h ▸ hTw) (fun h => ownsRow_lt hkv h)
    exact ⟨fun h => (hown x h).elim hxo (fun h => by omega), Nat.lt_of_lt_of_le hxl f2.size⟩
  clear hW0 hpf0
  generalize hTG : tags ++ [(⟨l.toArray⟩ : ByteArray)] = tags' at *
  have hout : (startOut nm kv).length = 1 + l.length + (attrsOut kv).length + 1 := by
   unfold startOut; rw [hl.out]; simp only [List.length_append, List.length_cons, List.length_nil]
  rw [hout] at hl0
  obtain ⟨j, hj⟩ : ∃ j : Iv, j = ⟨X.iv.d + 1, true, true⟩ := ⟨_, rfl⟩
  obtain ⟨ld, hld⟩ : ∃ ld, ld = lead X.pre X.ind X.iv.nl X.iv.d := ⟨_, rfl⟩
  rw [<- hld] at hl0
  have hind : ∀ w1, PG X w v T (.slice pa kv.length ca) l kv tags' (PS0 T (.slice pa kv.length ca)) out w1 -> Calls Tryz.prog 96 #[.pointer (some ⟨X.P, 0, none⟩), .int .i64 1] w1 fun e w2 => e = .returned (.tuple #[]) /\ (w2.cell? ⟨T, 0, none⟩ = some (.string ⟨#[]⟩) /\ w2.cell? ⟨T, 1, none⟩ = some (.string ⟨l.toArray⟩) /\ w2.cell? ⟨T, 2, none⟩ = some (.slice pa kv.length ca)) /\ Hid (PG (X.at j) w v T (.slice pa kv.length ca) l kv tags' (PS0 T (.slice pa kv.length ca)) (out ++ ld) w2) := fun w1 k => by
   refine (k.a.up hin hdp (by rw [<- hld]; omega)).mono ?_
   rintro e w2 ⟨rfl, a, q⟩
   rw [<- hld, <- hj] at a
   have g := k.next a q
   exact ⟨rfl, g.cells, g⟩
  have h61 : ∀ w1 o c i, PG (X.at j) w v T (.slice pa kv.length ca) l kv tags' (PS0 T (.slice pa kv.length ca)) o w1 -> i = (UInt8.toNat c : Int) -> o.length <= 1099511627776 -> Calls Tryz.prog 61 #[.pointer (some ⟨X.P, 0, none⟩), .int .u8 i] w1 fun e w2 => e = .returned .nilIface /\ (w2.cell? ⟨T, 0, none⟩ = some (.string ⟨#[]⟩) /\ w2.cell? ⟨T, 1, none⟩ = some (.string ⟨l.toArray⟩) /\ w2.cell? ⟨T, 2, none⟩ = some (.slice pa kv.length ca)) /\ Hid (PG (X.at j) w v T (.slice pa kv.length ca) l kv tags' (PS0 T (.slice pa kv.length ca)) (o ++ [c]) w2) := fun w1 o c i k hi hb => by
   refine (k.a.byte c i hi hb).mono ?_
   rintro e w2 ⟨rfl, a, q⟩
   have g := k.next a q
   exact ⟨rfl, g.cells, g⟩
  have h56 : ∀ w1 o r, PG (X.at j) w v T (.slice pa kv.length ca) l kv tags' (PS0 T (.slice pa kv.length ca)) o w1 -> o.length + r.length <= 1099511627776 -> Calls Tryz.prog 56 #[.pointer (some ⟨X.P, 0, none⟩), .string ⟨r.toArray⟩] w1 fun e w2 => ∃ q, e = .returned (.tuple #[q, .nilIface]) /\ (w2.cell? ⟨T, 0, none⟩ = some (.string ⟨#[]⟩) /\ w2.cell? ⟨T, 1, none⟩ = some (.string ⟨l.toArray⟩) /\ w2.cell? ⟨T, 2, none⟩ = some (.slice pa kv.length ca)) /\ Hid (PG (X.at j) w v T (.slice pa kv.length ca) l kv tags' (PS0 T (.slice pa kv.length ca)) (o ++ r) w2) := fun w1 o r k hb => by
   refine (k.a.strl r hb).mono ?_
   rintro e w2 ⟨⟨q, rfl⟩, a, q'⟩
   have g := k.next a q'
   exact ⟨q, rfl, g.cells, g⟩
  replace hind := zz hind
  replace h61 := zz h61
  replace h56 := zz h56
  replace hmk := zz hmk
  replace hl0 := zz hl0
  replace hout := zz hout
  replace hTG := zz hTG
  replace hld := zz hld
  replace hj := zz hj
  clear bP fP rP nP hPr t0 t1 t2 c11 c12 c13 f11 hPtv hPw hTtv hfa hfad htg htv
  go_wp2_with (first | (go_at_call 95; refine hmk.out.mono ?_; rintro e w2 ⟨rfl, k0⟩) | (go_at_call 96; refine (hind.out _ k0.out).mono ?_; rintro e w3 ⟨rfl, ⟨x0, x1, x2⟩, kk⟩; clear k0) | (go_at_call 61; refine (h61.out _ _ 60 60 kk.out rfl (by have := hl0.out; simp only [List.length_append]; omega)).mono ?_; rintro e w4 ⟨rfl, ⟨y0, y1, y2⟩, k1⟩; clear kk x0 x1 x2) | (go_at_call 56; refine (h56.out _ _ l k1.out (by have := hl0.out; simp only [List.length_append, List.length_cons, List.length_nil]; omega)).mono ?_; rintro e w5 ⟨q4, rfl, ⟨z0, z1, z2⟩, k2⟩; clear k1 y0 y1 y2))
  go_loopg [63] kv.length (fun k u63 wr => ∃ i : Nat, u63 = .int .i64 i /\ i + k = kv.length /\ PG (X.at j) w v T (.slice pa kv.length ca) l kv tags' (PS0 T (.slice pa kv.length ca)) (out ++ ld ++ [60] ++ l ++ attrsOut (kv.take i)) wr)
  case atStart => exact ⟨0, rfl, by omega, by have := k2.out; simpa [attrsOut] using this⟩
  case round =>
   obtain ⟨i, rfl, hik, hg⟩ := hrel
   clear k2 z0 z1 z2 hmk h56
   by_cases hi2 : i < kv.length
   ·have hIn : IntKind.i64.wrap ((i : Int) + 1) = ((i + 1 : Nat) : Int) := by rw [IntWalk.i64_in _ (by omega)]; omega
    have hi3 : (i : Int) < (kv.length : Int) := by omega
    have hcel : ∃ g, pa = some ⟨g, 0, none⟩ /\ wr.cell? ⟨g, i * 3, none⟩ = some (.string ⟨#[]⟩) /\ wr.cell? ⟨g, i * 3 + 1, none⟩ = some (.string (nameB kv[i].1)) /\ wr.cell? ⟨g, i * 3 + 2, none⟩ = some (.string (nameB kv[i].2)) := by
     obtain ⟨g, cap, hv, _, hc⟩ := ownsRow_some hg.r (by omega)
     obtain ⟨h1, h2, h3⟩ := kv_cells kv i hi2
     exact ⟨g, by injection hv, hc _ _ h1, hc _ _ h2, hc _ _ h3⟩
    obtain ⟨g, rfl, q0, q1, q2⟩ := hcel
    have hmem := List.getElem_mem hi2
    have hnm' := hnm _ hmem
    have hvl' := hvl _ hmem
    have hle := attrsOut_le hi2
    have htk := attrsOut_take hi2
    have hval : 6 * (nb kv[i].2).length <= 6 * (kv.flatMap fun x => nb x.2).length := by
     have : (nb kv[i].2).length <= (kv.flatMap fun x => nb x.2).length := by
      exact flat_le (fun x => nb x.2) hmem
     omega
    have hao : attrOut kv[i] = [32] ++ nb kv[i].1 ++ [61, 34] ++ escL true kv[i].2 ++ [34] := rfl
    unfold nameB at q1 q2
    generalize kv[i].2 = rs at *
    generalize nb kv[i].1 = n at *
    generalize hrr : nb rs = r at *
    have hne' : n.isEmpty = false := by cases n with
     | nil => exact absurd rfl hnm'
     | cons a t => rfl
    obtain ⟨o0, ho0⟩ : ∃ o0, o0 = out ++ ld ++ [60] ++ l ++ attrsOut (kv.take i) := ⟨_, rfl⟩
    have hol : o0.length + (attrOut kv[i]).length + 6 * r.length + 12 <= 1099511627776 := by
     have := hl0.out
     rw [ho0]; simp only [List.length_append, List.length_cons, List.length_nil]; omega
    rw [hao] at hol htk
    rw [<- ho0] at hg
    have hst : PH (X.at j) w v T (.slice (some ⟨g, 0, none⟩) kv.length ca) l kv tags' (fun x => PS0 T (.slice (some ⟨g, 0, none⟩) kv.length ca) x \/ x = wr.heap.size \/ x = wr.heap.size + 1) wr.heap.size n r o0 ((wr.alloc (.cells #[.string ⟨#[]⟩, .string ⟨n.toArray⟩, .string ⟨r.toArray⟩] 110)).alloc (.cells #[.string ⟨#[]⟩, .string ⟨n.toArray⟩] 105)) := by
     have f : Old wr ((wr.alloc (.cells #[.string ⟨#[]⟩, .string ⟨n.toArray⟩, .string ⟨r.toArray⟩] 110)).alloc (.cells #[.string ⟨#[]⟩, .string ⟨n.toArray⟩] 105)) := ((Fr.refl _ wr).alloc _).alloc _
     have b1 := (Blk.new wr #[.string ⟨#[]⟩, .string ⟨n.toArray⟩, .string ⟨r.toArray⟩] 110).alloc (.cells #[.string ⟨#[]⟩, .string ⟨n.toArray⟩] 105)
     have b2 := Blk.new (wr.alloc (.cells #[.string ⟨#[]⟩, .string ⟨n.toArray⟩, .string ⟨r.toArray⟩] 110)) #[.string ⟨#[]⟩, .string ⟨n.toArray⟩] 105
     rw [show (wr.alloc (.cells #[.string ⟨#[]⟩, .string ⟨n.toArray⟩, .string ⟨r.toArray⟩] 110)).heap.size = wr.heap.size + 1 by simp] at b2
     refine ⟨⟨hg.a.aside f (fun x hx => ?_), fun x hx => .inl hx, hg.T.keep f (fun h => h), ownsRow_frame hg.r f (fun _ _ h => h)⟩, ⟨.inr (.inl rfl), .inr (.inr rfl)⟩, b1, b2⟩
     rcases hx with hx | hx | hx
     ·exact .inl hx
     ·exact .inr (by simp; omega)
     ·exact .inr (by simp; omega)
    have h61 : ∀ w1 o c i, PH (X.at j) w v T (.slice (some ⟨g, 0, none⟩) kv.length ca) l kv tags' (fun x => PS0 T (.slice (some ⟨g, 0, none⟩) kv.length ca) x \/ x = wr.heap.size \/ x = wr.heap.size + 1) wr.heap.size n r o w1 -> i = (UInt8.toNat c : Int) -> o.length <= 1099511627776 -> Calls Tryz.prog 61 #[.pointer (some ⟨X.P, 0, none⟩), .int .u8 i] w1 fun e w2 => e = .returned .nilIface /\ PHc wr.heap.size n r w2 /\ Hid (PH (X.at j) w v T (.slice (some ⟨g, 0, none⟩) kv.length ca) l kv tags' (fun x => PS0 T (.slice (some ⟨g, 0, none⟩) kv.length ca) x \/ x = wr.heap.size \/ x = wr.heap.size + 1) wr.heap.size n r (o ++ [c]) w2) := fun w1 o c i k hi hb => by
     refine (k.g.a.byte c i hi hb).mono ?_
     rintro e w2 ⟨rfl, a⟩
     exact ⟨rfl, k.next a⟩
    have h56 : ∀ w1 o m, PH (X.at j) w v T (.slice (some ⟨g, 0, none⟩) kv.length ca) l kv tags' (fun x => PS0 T (.slice (some ⟨g, 0, none⟩) kv.length ca) x \/ x = wr.heap.size \/ x = wr.heap.size + 1) wr.heap.size n r o w1 -> o.length + m.length <= 1099511627776 -> Calls Tryz.prog 56 #[.pointer (some ⟨X.P, 0, none⟩), .string ⟨m.toArray⟩] w1 fun e w2 => ∃ q, e = .returned (.tuple #[q, .nilIface]) /\ PHc wr.heap.size n r w2 /\ Hid (PH (X.at j) w v T (.slice (some ⟨g, 0, none⟩) kv.length ca) l kv tags' (fun x => PS0 T (.slice (some ⟨g, 0, none⟩) kv.length ca) x \/ x = wr.heap.size \/ x = wr.heap.size + 1) wr.heap.size n r (o ++ m) w2) := fun w1 o m k hb => by
     refine (k.g.a.strl m hb).mono ?_
     rintro e w2 ⟨⟨q, rfl⟩, a⟩
     exact ⟨q, rfl, k.next a⟩
    have h97 : ∀ w1 o, PH (X.at j) w v T (.slice (some ⟨g, 0, none⟩) kv.length ca) l kv tags' (fun x => PS0 T (.slice (some ⟨g, 0, none⟩) kv.length ca) x \/ x = wr.heap.size \/ x = wr.heap.size + 1) wr.heap.size n r o w1 -> o.length + 6 * r.length + 10 <= 1099511627776 -> Calls Tryz.prog 97 #[.pointer (some ⟨X.P, 0, none⟩), .string ⟨r.toArray⟩] w1 fun e w2 => e = .returned (.tuple #[]) /\ PHc wr.heap.size n r w2 /\ Hid (PH (X.at j) w v T (.slice (some ⟨g, 0, none⟩) kv.length ca) l kv tags' (fun x => PS0 T (.slice (some ⟨g, 0, none⟩) kv.length ca) x \/ x = wr.heap.size \/ x = wr.heap.size + 1) wr.heap.size n r (o ++ escL true rs) w2) := fun w1 o k hb => by
     have := k.g.a.esc rs hvl'.1 (by rw [hrr]; exact hvl'.2) hU h5 h5w (by rw [hrr]; exact hb)
     rw [hrr] at this
     refine this.mono ?_
     rintro e w2 ⟨rfl, a⟩
     exact ⟨rfl, k.next a⟩
    replace hst := zz hst
    replace h61 := zz h61
    replace h56 := zz h56
    replace h97 := zz h97
    replace hol := zz hol
    replace ho0 := zz ho0
    replace htk := zz htk
    clear hao hle hval hrr hg hvl' hnm' hmem
    go_wp2_with (first
     | (go_at_call 61; refine (h61.out _ _ 32 32 hst.out rfl (by have := hol.out; omega)).mono ?_; rintro e w1 ⟨rfl, ⟨y0, y1, y2⟩, k1⟩; clear hst)
     | (go_at_call 56; refine (h56.out _ _ n k1.out (by have := hol.out; simp only [List.length_append, List.length_cons, List.length_nil] at this ⊢; omega)).mono ?_; rintro e w2 ⟨q, rfl, ⟨y0, y1, y2⟩, k2⟩; clear k1)
     | (go_at_call 56; refine (h56.out _ _ [61, 34] k2.out (by have := hol.out; simp only [List.length_append, List.length_cons, List.length_nil] at this ⊢; omega)).mono ?_; rintro e w3 ⟨q, rfl, ⟨y0, y1, y2⟩, k3⟩; clear k2)
     | (go_at_call 97; refine (h97.out _ _ k3.out (by have := hol.out; simp only [List.length_append, List.length_cons, List.length_nil] at this ⊢; omega)).mono ?_; rintro e w4 ⟨rfl, ⟨y0, y1, y2⟩, k4⟩; clear k3)
     | (go_at_call 61; refine (h61.out _ _ 34 34 k4.out rfl (by have := hol.out; simp only [List.length_append, List.length_cons, List.length_nil] at this ⊢; omega)).mono ?_; rintro e w5 ⟨rfl, ⟨y0, y1, y2⟩, k5⟩; clear k4))
    go_roundg (kv.length - (i + 1))
    case measure => omega
    case rel =>
     refine ⟨i + 1, rfl, by omega, ?_⟩
     have e := k5.out.g.less (S' := PS0 T (.slice (some ⟨g, 0, none⟩) kv.length ca)) (fun x hx => .inl hx) (fun x hx => hx)
     rw [htk.out]
     rw [ho0.out] at e
     simp only [List.append_assoc] at e ⊢
     exact e
   ·have hik' : i = kv.length := by omega
    subst hik'
    have hi3 : ¬ ((kv.length : Int) < (kv.length : Int)) := by omega
    rw [List.take_length] at hg
    have hol : (out ++ ld ++ [60] ++ l ++ attrsOut kv).length <= 1099511627776 := by
     have := hl0.out
     simp only [List.length_append, List.length_cons, List.length_nil]; omega
    have h62 := h61.out wr _ 62 62 hg rfl hol
    replace h62 := zz h62
    clear hg h61 hind
    go_wp2_with (go_at_call 61; refine h62.out.mono ?_; rintro e w5 ⟨rfl, -, k5⟩)
    go_ret
    obtain ⟨v', k6, k7, _⟩ := k5.out.a.ex
    refine ⟨rfl, v', ⟨k6.fr, k6.nw⟩, ?_⟩
    have e1 : out ++ (lead X.pre X.ind X.iv.nl X.iv.d ++ startOut nm kv) = out ++ ld ++ [60] ++ l ++ attrsOut kv ++ [62] := by
     rw [<- hld.out]; unfold startOut; rw [hl.out]; simp only [List.append_assoc]
    rw [e1, hTG.out, <- hj.out]
    exact k7
end
section
open Go.RowKit
theorem pend (X : Px) (v : Pv) (out : List UInt8) (tags : List ByteArray) (nm : List Nat) (w : World) (hne : nb nm ≠ [])
  (h : Pr X w v false out (tags ++ [nameB nm])) (htags : tags.length <= 549755813888) (hin : X.ind ≠ []) (hd1 : 1 <= X.iv.d) (hdp : X.iv.d <= 549755813888) (hl0 : out.length + (lead X.pre X.ind X.iv.nl (X.iv.d - 1)).length + (nb nm).length + 100 <= 1099511627776) :
  Calls Tryz.prog 52 #[.pointer (some ⟨X.P, 0, none⟩), .agg #[.string ⟨#[]⟩, .string (nameB nm)]] w fun e w' => e = .returned .nilIface /\ ∃ v', PSt X w v w' v' /\ Pr (X.at ⟨X.iv.d - 1, false, if X.iv.inn then X.iv.nl else true⟩) w' v' false (out ++ ((if X.iv.inn then [] else lead X.pre X.ind X.iv.nl (X.iv.d - 1)) ++ ([60, 47] ++ nb nm ++ [62]))) tags := by
 obtain ⟨j, hj⟩ : ∃ j : Iv, j = ⟨X.iv.d - 1, false, if X.iv.inn then X.iv.nl else true⟩ := ⟨_, rfl⟩
 obtain ⟨ld, hld⟩ : ∃ ld, ld = (if X.iv.inn then [] else lead X.pre X.ind X.iv.nl (X.iv.d - 1)) := ⟨_, rfl⟩
 have hldl : ld.length <= (lead X.pre X.ind X.iv.nl (X.iv.d - 1)).length := by rw [hld]; split <;> simp
 rw [<- hld, <- hj]
 unfold nameB at *
 generalize hl : nb nm = l at *
 have hie : l.isEmpty = false := by
  cases l with
  | nil => exact absurd rfl hne
  | cons a t => rfl
 obtain ⟨_, _, _, _, c11, c12, c13, _⟩ := h.cells
 have f11 := h.D.fz 11
 have htl : (tags ++ [(⟨l.toArray⟩ : ByteArray)]).length = tags.length + 1 := by simp
 have htg := h.tg
 rw [htl] at htg
 obtain ⟨g, cap, htv, hle, hc⟩ := ownsRow_some htg (by omega)
 have hgP : g ≠ X.P := (h.nt g (by rw [htv]; rfl)).1
 have hcl : (tagCells tags).length = tags.length * 2 := tagCells_len tags
 have g0 : w.cell? ⟨g, tags.length * 2, none⟩ = some (.string ⟨#[]⟩) := hc _ _ (by rw [tagCells_app, List.getElem?_append_right (by omega), hcl]; simp [tagCells])
 have g1 : w.cell? ⟨g, tags.length * 2 + 1, none⟩ = some (.string ⟨l.toArray⟩) := hc _ _ (by rw [tagCells_app, List.getElem?_append_right (by omega), hcl]; simp [tagCells])
 obtain ⟨n, hn⟩ : ∃ n, n = tags.length := ⟨_, rfl⟩
 rw [<- hn] at g0 g1 hle htags htv htg
 rw [htv] at c11
 obtain ⟨N, hN⟩ : ∃ N, N = n + 1 := ⟨_, rfl⟩
 rw [<- hN] at htv c11 hle htg
 have e1 : IntKind.i64.wrap (((N : Nat) : Int) - 1) = (n : Int) := by rw [IntWalk.i64_in _ (by omega)]; omega
 have e2 : (0 : Int) <= (n : Int) := by omega
 have e3 : (n : Int) < ((N : Nat) : Int) := by omega
 have e4 : (n : Int) <= (cap : Int) := by omega
 have e5 : (0 : Int) < ((N : Nat) : Int) := by omega
 have e6 : (((N : Nat) : Int) == 0) = false := by rw [beq_eq_false_iff_ne]; omega
 have hPw := h.D.lt
 have holdA : Old w (w.alloc (.cells #[.string ⟨#[]⟩, .string ⟨l.toArray⟩] 105)) := (Fr.refl _ w).alloc _
 replace c11 := holdA.cell c11
 replace c12 := holdA.cell c12
 replace c13 := holdA.cell c13
 replace g0 := holdA.cell g0
 replace g1 := holdA.cell g1
 have b0 := Blk.new w #[.string ⟨#[]⟩, .string ⟨l.toArray⟩] 105
 have t0 : (w.alloc (.cells #[.string ⟨#[]⟩, .string ⟨l.toArray⟩] 105)).cell? ⟨w.heap.size, 0, none⟩ = some (.string ⟨#[]⟩) := by rw [b0.cell]; rfl
 have t1 : (w.alloc (.cells #[.string ⟨#[]⟩, .string ⟨l.toArray⟩] 105)).cell? ⟨w.heap.size, 1, none⟩ = some (.string ⟨l.toArray⟩) := by rw [b0.cell]; rfl
 clear b0
 have hA2 : ∀ (k : Nat) (cs : Array Value), Old (w.alloc (.cells #[.string ⟨#[]⟩, .string ⟨l.toArray⟩] 105)) (((w.alloc (.cells #[.string ⟨#[]⟩, .string ⟨l.toArray⟩] 105)).drewN k).alloc (.cells cs 105)) := fun k cs => ((Fr.refl _ _).drewN k).alloc _
 have g2 : ∀ (k : Nat) (cs : Array Value), (((w.alloc (.cells #[.string ⟨#[]⟩, .string ⟨l.toArray⟩] 105)).drewN k).alloc (.cells cs 105)).cell? ⟨g, n * 2, none⟩ = some (.string ⟨#[]⟩) := fun k cs => (hA2 k cs).cell g0
 have g3 : ∀ (k : Nat) (cs : Array Value), (((w.alloc (.cells #[.string ⟨#[]⟩, .string ⟨l.toArray⟩] 105)).drewN k).alloc (.cells cs 105)).cell? ⟨g, n * 2 + 1, none⟩ = some (.string ⟨l.toArray⟩) := fun k cs => (hA2 k cs).cell g1
 clear hA2
 replace holdA := zz holdA
 replace h := zz h
 replace hl := zz hl
 replace htv := zz htv
 replace hN := zz hN
 replace hn := zz hn
 replace htg := zz htg
 clear hc hcl htl
 go_enter Tryz.func52, Tryz.ntmps52
 go_wp2
 go_quiet (fail)
 go_wp2
 go_cut [5] from 33 to 45 (fun u5 wx => u5 = .pointer (some ⟨w.heap.size + 1, 0, none⟩) /\ Old (w.alloc (.cells #[.string ⟨#[]⟩, .string ⟨l.toArray⟩] 105)) wx /\ Blk wx (w.heap.size + 1) #[.string ⟨#[]⟩, .string ⟨l.toArray⟩] 105)
 case first =>
  go_region_law (fail)
  all_goals go_wp2_with fail
  all_goals go_meet
  all_goals (
   refine ⟨rfl, ((Fr.refl _ _).drewN _).alloc _, ?_⟩
   have := Blk.new ((w.alloc (.cells #[.string ⟨#[]⟩, .string ⟨l.toArray⟩] 105)).drewN (nq + 1)) #[.string ⟨#[]⟩, .string ⟨l.toArray⟩] 105
   rw [show ((w.alloc (.cells #[.string ⟨#[]⟩, .string ⟨l.toArray⟩] 105)).drewN (nq + 1)).heap.size = w.heap.size + 1 by simp] at this
   exact this)
 case rest =>
  obtain ⟨rfl, hO, hB⟩ := hcut
  have k11 := hO.cell c11
  have kt0 := hO.cell t0
  have kt1 := hO.cell t1
  have kb0 : wc.cell? ⟨w.heap.size + 1, 0, none⟩ = some (.string ⟨#[]⟩) := by rw [hB.cell]; rfl
  have kb1 : wc.cell? ⟨w.heap.size + 1, 1, none⟩ = some (.string ⟨l.toArray⟩) := by rw [hB.cell]; rfl
  have hO2 : Old w wc := holdA.out.old hO
  have hDc := h.out.D.keep hO2 (fun h => h)
  have kf := hDc.fz 11
  clear c11 c12 c13 g0 g1 g2 g3 t0 t1
  have hPr := h.out
  obtain ⟨tv2, htv2⟩ : ∃ tv2, tv2 = Value.slice (some ⟨g, 0, none⟩) n cap := ⟨_, rfl⟩
  obtain ⟨W10, hW10⟩ : ∃ W10, W10 = wc.drew.setCell ⟨X.P, 11, none⟩ tv2 := ⟨_, rfl⟩
  have fW : Fr (fun x => x = X.P) wc W10 := by rw [hW10]; exact ((Fr.refl (fun x => x = X.P) wc).drew).set (Or.inl rfl) _ _
  have DW : Blk W10 X.P (prA X ⟨v.va, v.pv, tv2⟩ false) 103 := by
   rw [hW10]
   have := Blk.set (w := wc.drew) (hDc.keep ((Fr.refl (fun _ => False) wc).drew) (fun h => h)) 11 tv2
   exact this
  have f0 : Fr (fun x => x = X.P) w W10 := (Fr.of_old hO2).trans fW (fun x hx => .inl hx)
  have WW : Wr X.E W10 v.va out := hPr.W.keep f0 (fun x hx e => hPr.nP (e ▸ hx))
  have hE0 : Ew X W10 ⟨v.va, v.pv, tv2⟩ out W10 := ⟨v.va, Fr.refl _ _, fun x h => .inl h, DW, WW, Nat.lt_of_lt_of_le hPw f0.size, hPr.nP⟩
  have hwlt : w.heap.size < W10.heap.size := by
   have h1 := hB.lt
   have h2 := fW.size
   omega
  have hTb : Blk W10 w.heap.size #[.string ⟨#[]⟩, .string ⟨l.toArray⟩] 105 := ((Blk.new w #[.string ⟨#[]⟩, .string ⟨l.toArray⟩] 105).keep hO (fun h => h)).keep fW (by omega)
  have hTk : ∀ o w1, Ew (X.at j) W10 ⟨v.va, v.pv, tv2⟩ o w1 -> w1.cell? ⟨w.heap.size, 1, none⟩ = some (.string ⟨l.toArray⟩) := fun o w1 h => by
   obtain ⟨va', f, _⟩ := h
   have := hTb.keep f (fun e => by
    rcases e with e | e
    ·have e' : w.heap.size = X.P := e
     omega
    ·have := hPr.W.lt _ e; omega)
   rw [this.cell]; rfl
  have h96 : Calls Tryz.prog 96 #[.pointer (some ⟨X.P, 0, none⟩), .int .i64 (-1)] (wc.drew.setCell ⟨X.P, 11, none⟩ (.slice (some ⟨g, 0, none⟩) n cap)) fun e w2 => e = .returned (.tuple #[]) /\ w2.cell? ⟨w.heap.size, 1, none⟩ = some (.string ⟨l.toArray⟩) /\ Hid (Ew (X.at j) W10 ⟨v.va, v.pv, tv2⟩ (out ++ ld) w2) := by
   rw [<- htv2, <- hW10]
   refine (hE0.down hin hd1 hdp (by omega)).mono ?_
   rintro e w2 ⟨rfl, k⟩
   rw [<- hld, <- hj] at k
   exact ⟨rfl, hTk _ _ k, k⟩
  have h61 : ∀ o w1 c i, Ew (X.at j) W10 ⟨v.va, v.pv, tv2⟩ o w1 -> i = (UInt8.toNat c : Int) -> o.length <= 1099511627776 -> Calls Tryz.prog 61 #[.pointer (some ⟨X.P, 0, none⟩), .int .u8 i] w1 fun e w2 => e = .returned .nilIface /\ w2.cell? ⟨w.heap.size, 1, none⟩ = some (.string ⟨l.toArray⟩) /\ Hid (Ew (X.at j) W10 ⟨v.va, v.pv, tv2⟩ (o ++ [c]) w2) := fun o w1 c i h hi hb => by
   refine (h.byte c i hi hb).mono ?_
   rintro e w2 ⟨rfl, k⟩
   exact ⟨rfl, hTk _ _ k, k⟩
  have h56 : ∀ o w1, Ew (X.at j) W10 ⟨v.va, v.pv, tv2⟩ o w1 -> o.length + l.length <= 1099511627776 -> Calls Tryz.prog 56 #[.pointer (some ⟨X.P, 0, none⟩), .string ⟨l.toArray⟩] w1 fun e w2 => ∃ q, e = .returned (.tuple #[q, .nilIface]) /\ Hid (Ew (X.at j) W10 ⟨v.va, v.pv, tv2⟩ (o ++ l) w2) := fun o w1 h hb => by
   refine (h.strl l hb).mono ?_
   rintro e w2 ⟨⟨q, rfl⟩, k⟩
   exact ⟨q, rfl, k⟩
  have hnl : (tags ++ [(⟨l.toArray⟩ : ByteArray)]).length = n + 1 := by rw [hn.out]; simp
  have h99 : ∀ o w1, Ew (X.at j) W10 ⟨v.va, v.pv, tv2⟩ o w1 -> Calls Tryz.prog 99 #[.pointer (some ⟨X.P, 0, none⟩)] w1 fun e w2 => e = .returned (.tuple #[]) /\ Hid (∃ v', PSt X w v w2 v' /\ Pr (X.at j) w2 v' false o tags) := fun o w1 hE => by
   obtain ⟨va', f, nw, D1, W1, _, _⟩ := hE
   have hpf0 := hPr.pf
   rw [hnl] at hpf0
   have f01 : Fr (fun x => x = X.P \/ X.E.own v.va x) w w1 := (f0.mono (fun x hx => .inl (.inl hx))).trans f (fun x hx => .inl hx)
   have hnot : ∀ k, k ≠ X.P /\ ¬ X.E.own v.va k -> ¬ (k = X.P \/ X.E.own v.va k) := fun k hk e => e.elim hk.1 hk.2
   have hpf1 : w1.ownsRow 0 9 1 v.pv (n + 1) (List.replicate (n + 1) (.string ⟨#[]⟩)) := ownsRow_frame hpf0 f01 (fun k hk => hnot k (hPr.np k hk))
   refine (ppop (X.at j) ⟨va', v.pv, tv2⟩ n w1 htags D1 hpf1 (fun k hk => (hPr.np k hk).1)).mono ?_
   rintro e w2 ⟨rfl, pv', k1, k2, k3, k4⟩
   have f02 : Fr (fun x => x = X.P \/ X.E.own v.va x) w w2 := f01.trans k2 (fun x hx => .inl (.inl hx))
   have htg1 : w.ownsRow 0 105 2 tv2 n (tagCells tags) := by
    have h1 := htg.out
    rw [htv.out, hN.out, tagCells_app] at h1
    rw [htv2]
    exact ownsRow_pop h1 (by rw [tagCells_len, hn.out])
   have hwg : ∀ x, X.E.own va' x -> X.E.own v.va x \/ w.heap.size <= x := fun x hx => (nw x hx).imp id (fun h => Nat.le_trans f0.size h)
   have hE' : ∀ x, ¬ X.E.own v.va x -> x < w.heap.size -> ¬ X.E.own va' x := fun x h1 h2 h3 => (hwg x h3).elim h1 (fun h => by omega)
   have htv2o : ∀ k, tv2.ownBlock = some k -> v.tv.ownBlock = some k := fun k hk => by rw [htv.out]; rw [htv2] at hk; exact hk
   have hgl : ∀ k, v.tv.ownBlock = some k -> k < w.heap.size := fun k hk => ownsRow_lt hPr.tg hk
   refine ⟨rfl, ⟨va', pv', tv2⟩, ⟨f02.mono (fun x hx => .inl (hx.elim (fun h => .inl h) (fun h => .inr (.inl h)))), ?_⟩, ⟨k1, W1.keep k2 (fun x hx e => hE' X.P hPr.nP hPw (e ▸ hx)), ?_, ?_, hE' _ hPr.nP hPw, ?_, ?_⟩⟩
   ·rintro x (hx | hx | hx | hx)
    ·exact .inl (.inl hx)
    ·exact (hwg x hx).imp (fun h => .inr (.inl h)) id
    ·exact .inl (.inr (.inr (.inl (by rw [<- k4]; exact hx))))
    ·exact .inl (.inr (.inr (.inr (htv2o x hx))))
   ·rw [<- hn.out]; exact k3
   ·rw [<- hn.out]
    exact ownsRow_frame htg1 f02 (fun k hk => hnot k ⟨(hPr.nt k (htv2o k hk)).1, (hPr.nt k (htv2o k hk)).2.1⟩)
   ·intro k hk
    have hk' : v.pv.ownBlock = some k := by rw [<- k4]; exact hk
    exact ⟨(hPr.np k hk').1, hE' k (hPr.np k hk').2 (ownsRow_lt hPr.pf hk')⟩
   ·intro k hk
    have hk' := htv2o k hk
    refine ⟨(hPr.nt k hk').1, hE' k (hPr.nt k hk').2.1 (hgl k hk'), fun e => (hPr.nt k hk').2.2 (by rw [<- k4]; exact e)⟩
  clear hE0
  replace h61 := zz h61
  replace h56 := zz h56
  replace h99 := zz h99
  replace hW10 := zz hW10
  replace htv2 := zz htv2
  clear fW DW f0 WW hTb hPr hO hO2 hDc hB holdA hnl
  go_wp2
  refine wp_region_tail 14 [] [0, 1, 2, 3, 4, 5, 6, 7, 8, 9, 10, 11, 12, 13] (by kernel_rfl) (by kernel_rfl) (fun _ _ _ _ _ h => h) ?_
  simp only [List.filterMap_cons, List.filterMap_nil, List.getElem?_toArray, List.getElem?_cons_zero, List.getElem?_cons_succ, List.nil_append, List.cons_append, List.drop_succ_cons, List.drop_zero]
  repeat still_step
  refine wpStill_nil ?_
  go_wp2_with (first
   | (go_at_call 96; refine h96.mono ?_; rintro e w1 ⟨rfl, y0, k0⟩)
   | (go_at_call 61; refine (h61.out _ _ 60 60 k0.out rfl (by simp only [List.length_append]; omega)).mono ?_; rintro e w2 ⟨rfl, y1, k1⟩; clear k0 y0)
   | (go_at_call 61; refine (h61.out _ _ 47 47 k1.out rfl (by simp only [List.length_append, List.length_cons, List.length_nil]; omega)).mono ?_; rintro e w3 ⟨rfl, y2, k2⟩; clear k1 y1)
   | (go_at_call 56; refine (h56.out _ _ k2.out (by simp only [List.length_append, List.length_cons, List.length_nil]; omega)).mono ?_; rintro e w4 ⟨q, rfl, k3⟩; clear k2 y2)
   | (go_at_call 61; refine (h61.out _ _ 62 62 k3.out rfl (by simp only [List.length_append, List.length_cons, List.length_nil]; omega)).mono ?_; rintro e w5 ⟨rfl, y4, k4⟩; clear k3)
   | (go_at_call 99; refine (h99.out _ _ k4.out).mono ?_; rintro e w6 ⟨rfl, k5⟩; clear k4))
  go_ret
  have := k5.out
  simp only [List.append_assoc, List.cons_append, List.nil_append] at this ⊢
  exact ⟨rfl, this⟩
end
end Go.Proofs.YtepbbahdhhjibaaGreatDoor
