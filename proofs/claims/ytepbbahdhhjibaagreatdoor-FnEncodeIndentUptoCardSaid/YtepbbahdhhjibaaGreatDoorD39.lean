/- own text -/
import Derived.Test.YtepbbahdhhjibaaGreatDoorD36
namespace Go.Proofs.YtepbbahdhhjibaaGreatDoor
set_option linter.unusedSimpArgs false
set_option linter.unusedVariables false
set_option maxHeartbeats 8000000
set_option maxRecDepth 100000
section
open Go.RowKit
def AddP (P : Nat) (s : ByteArray) (base : Nat) (w : World) (a : Nat) (q : PV) (vd : Int) (gs : List GT) (k : Int) (w' : World) : Prop := ∃ q' g, g.kind = k /\ SQ P s base w' a q' vd (gs ++ [g]) [] [] /\ GoP P q w q' w'
theorem AddP.from {P : Nat} {s : ByteArray} {base : Nat} {w w1 : World} {a : Nat} {q : PV} {vd : Int} {gs : List GT} {k : Int} {w' : World} (h : AddP P s base w1 a q vd gs k w') (f : FrP P w w1) : AddP P s base w a q vd gs k w' := by
 obtain ⟨q', g, h1, h2, h3⟩ := h
 exact ⟨q', g, h1, h2, (GoP.of f).tr h3⟩
theorem close_raw (P : Nat) (s : ByteArray) (base : Nat) (w : World) (a : Nat) (q : PV) (vd : Int) (gs : List GT) (h : SQ P s base w a q vd gs [] []) (hn : gs.length <= 1000) (hbase : base <= w.heap.size) (l : ByteArray) :
  Calls Tryz.prog 132 #[.pointer (some ⟨P, 0, none⟩), .string ⟨#[]⟩, .string l] w fun e w' => e = .returned (.bool true) /\ Hid (AddP P s base w a q vd gs 2 w') := by
 obtain ⟨W0, hW0⟩ : ∃ W0, W0 = w.alloc (.cells #[.int .i64 2, .string ⟨#[]⟩, .string l, .slice none 0 0, .string ⟨#[]⟩, .int .i64 0] 28) := ⟨_, rfl⟩
 have hO0 : Old w W0 := by rw [hW0]; exact (Fr.refl _ w).alloc _
 have hb0 : Blk W0 w.heap.size #[.int .i64 2, .string ⟨#[]⟩, .string l, .slice none 0 0, .string ⟨#[]⟩, .int .i64 0] 28 := by rw [hW0]; exact Blk.new w _ _
 have h0 := h.old hO0
 have hadd := (add_do P s base W0 a q vd gs [] [] h0 (by omega) (Nat.le_trans hbase hO0.size) 2 ⟨#[]⟩ l (.slice none 0 0) [] ⟨#[]⟩ (AttrG.nil _ _) 0).mono (R' := fun e w' => e = .returned (.bool true) /\ Hid (AddP P s base w a q vd gs 2 w')) (by
  rintro e w' ⟨rfl, q', k1, k2, _⟩
  exact ⟨rfl, AddP.from ⟨q', _, rfl, k1, k2⟩ (Fr.of_old hO0)⟩)
 obtain ⟨_, _, c2, _⟩ := h0.blk.c
 generalize hT : w.heap.size = T at *
 have y0 : W0.cell? ⟨T, 0, none⟩ = some (.int .i64 2) := by rw [hb0.cell]; rfl
 have y1 : W0.cell? ⟨T, 1, none⟩ = some (.string ⟨#[]⟩) := by rw [hb0.cell]; rfl
 have y2 : W0.cell? ⟨T, 2, none⟩ = some (.string l) := by rw [hb0.cell]; rfl
 have y3 : W0.cell? ⟨T, 3, none⟩ = some (.slice none 0 0) := by rw [hb0.cell]; rfl
 have y4 : W0.cell? ⟨T, 4, none⟩ = some (.string ⟨#[]⟩) := by rw [hb0.cell]; rfl
 have y5 : W0.cell? ⟨T, 5, none⟩ = some (.int .i64 0) := by rw [hb0.cell]; rfl
 replace hadd := zz hadd
 clear h h0 hb0 hO0
 go_enter Tryz.func132, Tryz.ntmps132
 go_upto_region 2 with (fail)
 rw [<- hW0]
 replace hW0 := zz hW0
 replace hT := zz hT
 go_wp2_with (go_at_call 129; refine hadd.out.mono ?_; rintro e w1 ⟨rfl, k1⟩)
 go_ret
 exact ⟨rfl, k1.out⟩
theorem opened_raw (P : Nat) (s : ByteArray) (base : Nat) (w : World) (a : Nat) (q : PV) (vd : Int) (gs : List GT) (h : SQ P s base w a q vd gs [] []) (hn : gs.length <= 1000) (hbase : base <= w.heap.size) (l : ByteArray) (pa : Option Addr) (na ca : Nat) (ats : List (ByteArray × ByteArray × ByteArray)) (hav : AttrG w (SA P q) (.slice pa (na : Nat) ca) ats) :
  Calls Tryz.prog 135 #[.pointer (some ⟨P, 0, none⟩), .agg #[.int .i64 1, .string ⟨#[]⟩, .string l, .slice pa (na : Nat) ca, .string ⟨#[]⟩, .int .i64 0], .bool false] w fun e w' => e = .returned (.bool true) /\ Hid (AddP P s base w a q vd gs 1 w') := by
 obtain ⟨W0, hW0⟩ : ∃ W0, W0 = w.alloc (.cells #[.int .i64 1, .string ⟨#[]⟩, .string l, .slice pa (na : Nat) ca, .string ⟨#[]⟩, .int .i64 0] 28) := ⟨_, rfl⟩
 have hO0 : Old w W0 := by rw [hW0]; exact (Fr.refl _ w).alloc _
 have hb0 : Blk W0 w.heap.size #[.int .i64 1, .string ⟨#[]⟩, .string l, .slice pa (na : Nat) ca, .string ⟨#[]⟩, .int .i64 0] 28 := by rw [hW0]; exact Blk.new w _ _
 have hadd : ∀ nq, Calls Tryz.prog 129 #[.pointer (some ⟨P, 0, none⟩), .agg #[.int .i64 1, .string ⟨#[]⟩, .string l, .slice pa (na : Nat) ca, .string ⟨#[]⟩, .int .i64 0]] (W0.drewN nq) fun e w' => e = .returned (.bool true) /\ Hid (AddP P s base w a q vd gs 1 w') := fun nq => by
  have hO1 : Old w (W0.drewN nq) := hO0.drewN nq
  refine (add_do P s base (W0.drewN nq) a q vd gs [] [] (h.old hO1) (by omega) (Nat.le_trans hbase hO1.size) 1 ⟨#[]⟩ l (.slice pa (na : Nat) ca) ats ⟨#[]⟩ (hav.keep hO1 (fun k _ hk => ⟨fun h => h, hk⟩)) 0).mono ?_
  rintro e w' ⟨rfl, q', k1, k2, _⟩
  exact ⟨rfl, AddP.from ⟨q', _, rfl, k1, k2⟩ (Fr.of_old hO1)⟩
 have hc2 : ∀ nq, (W0.drewN nq).cell? ⟨P, 2, none⟩ = some (.bool true) := fun nq => (h.old (hO0.drewN nq)).blk.c.2.2.1
 generalize hT : w.heap.size = T at *
 have hy : ∀ nq, (W0.drewN nq).cell? ⟨T, 0, none⟩ = some (.int .i64 1) /\ (W0.drewN nq).cell? ⟨T, 1, none⟩ = some (.string ⟨#[]⟩) /\ (W0.drewN nq).cell? ⟨T, 2, none⟩ = some (.string l) /\ (W0.drewN nq).cell? ⟨T, 3, none⟩ = some (.slice pa (na : Nat) ca) /\ (W0.drewN nq).cell? ⟨T, 4, none⟩ = some (.string ⟨#[]⟩) /\ (W0.drewN nq).cell? ⟨T, 5, none⟩ = some (.int .i64 0) := fun nq => by
  have hb := hb0.keep ((Fr.refl (fun _ => False) W0).drewN nq) (fun h => h)
  exact ⟨by rw [hb.cell]; rfl, by rw [hb.cell]; rfl, by rw [hb.cell]; rfl, by rw [hb.cell]; rfl, by rw [hb.cell]; rfl, by rw [hb.cell]; rfl⟩
 have y1 : W0.cell? ⟨T, 1, none⟩ = some (.string ⟨#[]⟩) := by rw [hb0.cell]; rfl
 have y2 : W0.cell? ⟨T, 2, none⟩ = some (.string l) := by rw [hb0.cell]; rfl
 replace hadd := zz hadd
 replace hc2 := zz hc2
 replace hy := zz hy
 clear h hb0 hO0 hav
 go_enter Tryz.func135, Tryz.ntmps135
 go_upto_region 1 with fail
 rw [<- hW0]
 replace hW0 := zz hW0
 replace hT := zz hT
 go_upto_region 2 with fail
 go_quiet (fail)
 clear y1 y2
 have c2 := hc2.out nq
 obtain ⟨y0, y1, y2, y3, y4, y5⟩ := hy.out nq
 have hadd' := zz (hadd.out nq)
 generalize W0.drewN nq = W1 at *
 go_wp2_with (go_at_call 129; refine hadd'.out.mono ?_; rintro e w1 ⟨rfl, k1⟩)
 go_ret
 exact ⟨rfl, k1.out⟩
theorem endTag_yes (P : Nat) (s : ByteArray) (base : Nat) (w : World) (a : Nat) (q : PV) (vd : Int) (gs : List GT) (h : SQ P s base w a q vd gs [] []) (hz : s.size <= 549755813888) (hn : gs.length <= 1000) (hbase : base <= w.heap.size) (haz : a <= s.size) (nm : List Nat) (hnm : NameOk nm) (rest : List UInt8) (hL : s.data.toList.drop a = nb nm ++ ([62] ++ rest)) :
  Calls Tryz.prog 77 #[.pointer (some ⟨P, 0, none⟩)] w fun e w' => e = .returned (.bool true) /\ Hid (AddP P s base w (a + (nb nm).length + 1) q vd gs 2 w') := by
 have hsz := at_le hL haz
 have hg1 := at_go hL
 simp only [List.length_append, List.length_cons, List.length_nil] at hsz
 obtain ⟨A, hA⟩ : ∃ A, A = a + (nb nm).length := ⟨_, rfl⟩
 have z1 : A <= s.size := by omega
 have hnm' := name_yes P s a q vd w h.blk hz haz nm hnm _ hL (fun c t e => by injection e with e _; rw [<- e]; decide)
 rw [<- hA] at hg1 hnm' ⊢
 have hb1 : ∀ w1, SP P s q vd w A w1 -> Calls Tryz.prog 131 #[.pointer (some ⟨P, 0, none⟩)] w1 fun e w' => e = .returned (.bool false) /\ Hid (SP P s q vd w A w') := fun w1 k => k.blanksY hz z1 [] _ hg1 (fun c hc => by cases hc) (fun c t e => by injection e with e _; rw [<- e]; decide)
 have he1 : ∀ w1, SP P s q vd w A w1 -> Calls Tryz.prog 76 #[.pointer (some ⟨P, 0, none⟩), .string ⟨#[62]⟩] w1 fun e w' => e = .returned (.bool true) /\ Hid (SP P s q vd w (A + 1) w') := fun w1 k => (k.hasY hz z1 [62] _ hg1 (by decide)).mono (fun e w' x => ⟨x.1, x.2.2⟩)
 have hcl : ∀ w1, SP P s q vd w (A + 1) w1 -> Calls Tryz.prog 132 #[.pointer (some ⟨P, 0, none⟩), .string ⟨#[]⟩, .string (nameB nm)] w1 fun e w' => e = .returned (.bool true) /\ Hid (AddP P s base w (A + 1) q vd gs 2 w') := fun w1 k => by
  refine (close_raw P s base w1 (A + 1) q vd gs (h.sp k) hn (Nat.le_trans hbase k.2.size) _).mono ?_
  rintro e w' ⟨rfl, x⟩
  exact ⟨rfl, x.out.from k.2⟩
 generalize nameB nm = N at *
 replace hnm' := zz hnm'
 replace hb1 := zz hb1
 replace he1 := zz he1
 replace hcl := zz hcl
 clear h hL hg1 hsz hA z1 hnm
 go_enter Tryz.func77, Tryz.ntmps77
 go_wp2_with (first
  | (go_at_call 130; refine hnm'.out.mono ?_; rintro e w1 ⟨rfl, k1⟩)
  | (go_at_call 131; refine (hb1.out _ k1.out).mono ?_; rintro e w2 ⟨rfl, k2⟩; clear k1)
  | (go_at_call 76; refine (he1.out _ k2.out).mono ?_; rintro e w3 ⟨rfl, k3⟩; clear k2)
  | (go_at_call 132; refine (hcl.out _ k3.out).mono ?_; rintro e w4 ⟨rfl, k4⟩))
 go_ret
 exact ⟨rfl, k4.out⟩
theorem name_head {nm : List Nat} (h : NameOk nm) : ∃ c t, nb nm = c :: t /\ wb c = true := by
 have h1 := h.nb_ne
 cases hn : nb nm with
 | nil => exact absurd hn h1
 | cons c t => exact ⟨c, t, rfl, name_wb h c (by rw [hn]; simp)⟩
theorem wb_ws {c : UInt8} (h : wb c = true) : isWs c = false /\ c ≠ 62 /\ c ≠ 47 /\ c ≠ 60 := by
 refine ⟨?_, ?_, ?_, ?_⟩
 ·cases hw : isWs c with
  | false => rfl
  | true =>
   have hb' : c = 32 \/ c = 13 \/ c = 10 \/ c = 9 := by simpa [isWs, or_assoc] using hw
   rcases hb' with rfl | rfl | rfl | rfl <;> exact absurd h (by decide)
 ·rintro rfl; exact absurd h (by decide)
 ·rintro rfl; exact absurd h (by decide)
 ·rintro rfl; exact absurd h (by decide)
def ndKv (kv : List (List Nat × List Nat)) : Prop := ∀ (i j : Nat) (hi : i < kv.length) (hj : j < i), nameB kv[i].1 ≠ nameB (kv[j]'(by omega)).1
theorem kvA_take {kv : List (List Nat × List Nat)} {i : Nat} (h : i < kv.length) : kvA (kv.take (i + 1)) = kvA (kv.take i) ++ [(⟨#[]⟩, nameB kv[i].1, nameB kv[i].2)] := by
 unfold kvA; rw [List.take_succ_eq_append_getElem h, List.map_append]; rfl
theorem attrsOut_drop {kv : List (List Nat × List Nat)} {i : Nat} (h : i < kv.length) : attrsOut (kv.drop i) = attrOut kv[i] ++ attrsOut (kv.drop (i + 1)) := by
 rw [List.drop_eq_getElem_cons h]; rfl
end
section
open Go.RowKit
theorem attrsOut_tk {kv : List (List Nat × List Nat)} {i : Nat} (h : i < kv.length) : attrsOut (kv.take (i + 1)) = attrsOut (kv.take i) ++ attrOut kv[i] := by
 unfold attrsOut; rw [List.take_succ_eq_append_getElem h, List.flatMap_append]; simp
theorem startTag_yes (P : Nat) (s : ByteArray) (base : Nat) (w : World) (a : Nat) (q : PV) (vd : Int) (gs : List GT) (h : SQ P s base w a q vd gs [] []) (hz : s.size <= 549755813888) (hn : gs.length <= 1000) (hbase : base <= w.heap.size) (haz : a <= s.size) (nm : List Nat) (hnm : NameOk nm) (kv : List (List Nat × List Nat)) (hkv : ∀ x ∈ kv, NameOk x.1 /\ (nb x.1 == [120, 109, 108, 110, 115]) = false /\ ∀ r ∈ x.2, isCh r = true) (hnd : ndKv kv) (rest : List UInt8) (hL : s.data.toList.drop a = nb nm ++ (attrsOut kv ++ ([62] ++ rest))) :
  Calls Tryz.prog 84 #[.pointer (some ⟨P, 0, none⟩)] w fun e w' => e = .returned (.bool true) /\ Hid (AddP P s base w (a + (nb nm).length + (attrsOut kv).length + 1) q vd gs 1 w') := by
 have hPw := h.blk.lt
 have hsz := at_le hL haz
 simp only [List.length_append, List.length_cons, List.length_nil] at hsz
 have hg1 := at_go hL
 have hst0 : ∀ c t, attrsOut kv ++ ([62] ++ rest) = c :: t -> wb c = false := by
  intro c t e
  cases kv with
  | nil => injection e with e _; rw [<- e]; decide
  | cons x kv => injection e with e _; rw [<- e]; decide
 have hnm' := name_yes P s a q vd w h.blk hz haz nm hnm _ hL hst0
 obtain ⟨a1, ha1⟩ : ∃ a1, a1 = a + (nb nm).length := ⟨_, rfl⟩
 rw [<- ha1] at hg1 hnm' ⊢
 have hbnd : ∀ i, i <= kv.length -> (attrsOut (kv.take i)).length <= (attrsOut kv).length := fun i _ => by
  have : attrsOut kv = attrsOut (kv.take i) ++ attrsOut (kv.drop i) := by
   simp only [attrsOut, <- List.flatMap_append, List.take_append_drop]
  rw [this, List.length_append]; omega
 have hgi : ∀ i, i <= kv.length -> s.data.toList.drop (a1 + (attrsOut (kv.take i)).length) = attrsOut (kv.drop i) ++ ([62] ++ rest) := fun i _ => by
  have : attrsOut kv = attrsOut (kv.take i) ++ attrsOut (kv.drop i) := by
   simp only [attrsOut, <- List.flatMap_append, List.take_append_drop]
  rw [this, List.append_assoc] at hg1
  exact at_go hg1
 have hkl := kv_le kv
 obtain ⟨l, hl⟩ : ∃ l, l = nameB nm := ⟨_, rfl⟩
 rw [<- hl] at hnm'
 replace hnm' := zz hnm'
 replace h := zz h
 replace hbase := zz hbase
 replace hgi := zz hgi
 replace hbnd := zz hbnd
 replace hkv := zz hkv
 replace hnd := zz hnd
 replace ha1 := zz ha1
 replace hl := zz hl
 clear hL hg1 hst0
 go_enter Tryz.func84, Tryz.ntmps84
 go_upto_region 2 with (go_at_call 130; refine hnm'.out.mono ?_; rintro e W1 ⟨rfl, k1⟩)
 have hww := k1.out.2.size
 obtain ⟨T, hT⟩ : ∃ T, T = W1.heap.size := ⟨_, rfl⟩
 obtain ⟨W2, hW2⟩ : ∃ W2, W2 = W1.alloc (.cells #[.int .i64 1, .string ⟨#[]⟩, .string l, .slice none 0 0, .string ⟨#[]⟩, .int .i64 0] 28) := ⟨_, rfl⟩
 have hT2 : Blk W2 T #[.int .i64 1, .string ⟨#[]⟩, .string l, .slice none 0 0, .string ⟨#[]⟩, .int .i64 0] 28 := by rw [hW2, hT]; exact Blk.new W1 _ _
 have hS2 : SP P s q vd w a1 W2 := by rw [hW2]; exact k1.out.old ((Fr.refl _ W1).alloc _)
 have hTw : w.heap.size <= T := by omega
 replace hT2 := zz hT2
 replace hS2 := zz hS2
 clear k1 hnm'
 go_wp2
 rw [<- hW2, <- hT]
 replace hW2 := zz hW2
 replace hT := zz hT
 go_loopg [] kv.length (fun k wr => ∃ (i : Nat) (pa : Option Addr) (ca : Nat), i + k = kv.length /\ SP P s q vd w (a1 + (attrsOut (kv.take i)).length) wr /\ Blk wr T #[.int .i64 1, .string ⟨#[]⟩, .string l, .slice pa (i : Nat) ca, .string ⟨#[]⟩, .int .i64 0] 28 /\ wr.ownsRow 0 30 3 (.slice pa (i : Nat) ca) i (atsC (kvA (kv.take i))) /\ ∀ k, (Value.slice pa (i : Nat) ca).ownBlock = some k -> T < k)
 case atStart => exact ⟨0, none, 0, by omega, hS2.out, hT2.out, World.ownsRow_nil _ _ _ _, fun k hk => (by cases hk)⟩
 case round =>
  obtain ⟨i, pa, ca, hik, hSA, hTA, hrow, hown⟩ := hrel
  obtain ⟨W3, rfl⟩ : ∃ W3, W3 = wr := ⟨_, rfl⟩
  have hTP : T ≠ P := by omega
  have hin : i <= kv.length := by omega
  have hgo := hgi.out i hin
  have hbn := hbnd.out i hin
  obtain ⟨A, hA⟩ : ∃ A, A = a1 + (attrsOut (kv.take i)).length := ⟨_, rfl⟩
  rw [<- hA] at hSA hgo
  have hAs : A <= s.size := by have := ha1.out; omega
  have hTc : ∀ w3, FrP P W3 w3 -> w3.cell? ⟨T, 0, none⟩ = some (.int .i64 1) /\ w3.cell? ⟨T, 1, none⟩ = some (.string ⟨#[]⟩) /\ w3.cell? ⟨T, 2, none⟩ = some (.string l) /\ w3.cell? ⟨T, 3, none⟩ = some (.slice pa (i : Nat) ca) /\ w3.cell? ⟨T, 4, none⟩ = some (.string ⟨#[]⟩) /\ w3.cell? ⟨T, 5, none⟩ = some (.int .i64 0) := fun w3 f => by
   have hb := hTA.keep f hTP
   exact ⟨by rw [hb.cell]; rfl, by rw [hb.cell]; rfl, by rw [hb.cell]; rfl, by rw [hb.cell]; rfl, by rw [hb.cell]; rfl, by rw [hb.cell]; rfl⟩
  replace hTc := zz hTc
  by_cases hi : i < kv.length
  ·have hmem := List.getElem_mem hi
   obtain ⟨hxn, _, hxv⟩ := hkv.out _ hmem
   have htk := attrsOut_tk hi
   have hta := kvA_take hi
   have hdr := attrsOut_drop hi
   have hao : attrOut kv[i] = [32] ++ nb kv[i].1 ++ [61, 34] ++ escL true kv[i].2 ++ [34] := rfl
   have hdis : ∀ j (hj : j < i), nameB kv[i].1 ≠ nameB (kv[j]'(by omega)).1 := fun j hj => hnd.out i j hi hj
   generalize kv[i] = x at *
   obtain ⟨xn, xv⟩ := x
   dsimp only at hxn hxv hao hta hdis
   have hgo1 : s.data.toList.drop A = [32] ++ (nb xn ++ ([61] ++ ([34] ++ (escL true xv ++ ([34] ++ (attrsOut (kv.drop (i + 1)) ++ ([62] ++ rest))))))) := by rw [hgo, hdr, hao]; simp
   have hgo2 := at_go hgo1
   simp only [List.length_cons, List.length_nil] at hgo2
   have hszA := at_le hgo1 hAs
   simp only [List.length_append, List.length_cons, List.length_nil] at hszA
   obtain ⟨c, t, hnh, hwb⟩ := name_head hxn
   obtain ⟨hw1, hw2, hw3, _⟩ := wb_ws hwb
   have hBs : A + 1 <= s.size := by omega
   have hBl : A + 1 < s.size := by have := name_size hxn; omega
   have hgo3 : s.data.toList.drop (A + 1) = c :: (t ++ ([61] ++ ([34] ++ (escL true xv ++ ([34] ++ (attrsOut (kv.drop (i + 1)) ++ ([62] ++ rest))))))) := by rw [hgo2, hnh]; rfl
   have hbl := (SP.start hSA.1).blanksY hz hAs [32] _ hgo1 (fun c hc => by rw [List.mem_singleton.1 hc]; decide) (fun d u e => by rw [hnh] at e; injection e with e _; rw [<- e]; exact hw1)
   obtain ⟨B, hB⟩ : ∃ B, B = A + 1 := ⟨_, rfl⟩
   have hbl' : Calls Tryz.prog 131 #[.pointer (some ⟨P, 0, none⟩)] W3 fun e w' => e = .returned (.bool true) /\ Hid (SP P s q vd W3 B w') := by rw [hB]; exact hbl
   rw [<- hB] at hgo2 hgo3 hBs hBl
   have hh1 : ∀ w3, SP P s q vd W3 B w3 -> Calls Tryz.prog 76 #[.pointer (some ⟨P, 0, none⟩), .string ⟨#[62]⟩] w3 fun e w' => e = .returned (.bool false) /\ Hid (SP P s q vd W3 B w') := fun w3 k => (k.hasN hz hBs [62] (by rw [hgo3]; simpa using hw2) (by decide)).mono (fun e w' x => ⟨x.1, x.2.2⟩)
   have hh2 : ∀ w3, SP P s q vd W3 B w3 -> Calls Tryz.prog 76 #[.pointer (some ⟨P, 0, none⟩), .string ⟨#[47]⟩] w3 fun e w' => e = .returned (.bool false) /\ Hid (SP P s q vd W3 B w') := fun w3 k => (k.hasN hz hBs [47] (by rw [hgo3]; simpa using hw3) (by decide)).mono (fun e w' x => ⟨x.1, x.2.2⟩)
   have he := fun (w3 : World) (k : SP P s q vd W3 B w3) => (k.endN hBl).mono (R' := fun e w' => e = .returned (.bool false) /\ Hid (SP P s q vd W3 B w')) (fun e w' x => ⟨x.1, k.drw x.2⟩)
   have hlen : B + (nb xn).length + 1 + 1 + (escL true xv).length + 1 = a1 + (attrsOut (kv.take (i + 1))).length := by
    rw [htk, List.length_append, hao, hB, hA]
    simp only [List.length_append, List.length_cons, List.length_nil]; omega
   have hat : ∀ w3, SP P s q vd W3 B w3 -> Calls Tryz.prog 136 #[.pointer (some ⟨P, 0, none⟩)] w3 fun e w' => e = .returned (.tuple #[.agg #[.string ⟨#[]⟩, .string (nameB xn), .string (nameB xv)], .bool true]) /\ Hid (SP P s q vd W3 (a1 + (attrsOut (kv.take (i + 1))).length) w') := fun w3 k => by
    refine (attribute_yes P s w3 B q vd k.1 hz hBs xn hxn xv hxv _ hgo2).mono ?_
    rintro e w' ⟨rfl, x⟩
    rw [<- hlen]
    exact ⟨rfl, x.out.from k.2⟩
   have hdis2 : ∀ j (hj : j < i), ∃ lj vj, (atsC (kvA (kv.take i)))[j * 3]? = some (.string ⟨#[]⟩) /\ (atsC (kvA (kv.take i)))[j * 3 + 1]? = some (.string lj) /\ (atsC (kvA (kv.take i)))[j * 3 + 2]? = some (.string vj) /\ (nameB xn).toList ≠ lj.toList := fun j hj => by
    have hjl : j < (kvA (kv.take i)).length := by simp [kvA]; omega
    obtain ⟨x1, x2, x3⟩ := atsC_get (kvA (kv.take i)) j hjl
    have e : (kvA (kv.take i))[j] = (⟨#[]⟩, nameB (kv[j]'(by omega)).1, nameB (kv[j]'(by omega)).2) := by simp [kvA]
    rw [e] at x1 x2 x3
    refine ⟨_, _, x1, x2, x3, fun e => hdis j hj ?_⟩
    rw [Go.ByteArray.toList_eq, Go.ByteArray.toList_eq] at e
    exact bytes_eq e
   generalize nameB xn = l2 at *
   generalize nameB xv = v2 at *
   replace hbl' := zz hbl'
   replace hh1 := zz hh1
   replace hh2 := zz hh2
   replace he := zz he
   replace hat := zz hat
   replace hta := zz hta
   replace hdis2 := zz hdis2
   replace hSA := zz hSA
   replace hTA := zz hTA
   replace hrow := zz hrow
   replace hown := zz hown
   replace hik := zz hik
   clear hgo hgo1 hgo2 hgo3 hszA hnh hwb hw1 hw2 hw3 hxn hxv hao htk hdr hlen hbl hB hA hdis hmem hbn hAs hBs hBl
   go_upto_region 15 with (first
    | (go_at_call 136; refine (hat.out _ k7.out).mono ?_; rintro e w8 ⟨rfl, k8⟩; clear k7)
    | (go_at_call 42; refine (he.out _ k6.out).mono ?_; rintro e w7 ⟨rfl, k7⟩; clear k6)
    | (go_at_call 76; refine (hh2.out _ k5.out).mono ?_; rintro e w6 ⟨rfl, k6⟩; clear k5)
    | (go_at_call 76; refine (hh1.out _ k4.out).mono ?_; rintro e w5 ⟨rfl, k5⟩; clear k4)
    | (go_at_call 131; refine hbl'.out.mono ?_; rintro e w4 ⟨rfl, k4⟩))
   obtain ⟨R8, hR8⟩ : ∃ R8, R8 = w8.heap.size := ⟨_, rfl⟩
   obtain ⟨W9, hW9⟩ : ∃ W9, W9 = w8.alloc (.cells #[.string ⟨#[]⟩, .string l2, .string v2] 30) := ⟨_, rfl⟩
   have hO9 : Old w8 W9 := by rw [hW9]; exact (Fr.refl _ w8).alloc _
   have hb9 : Blk W9 R8 #[.string ⟨#[]⟩, .string l2, .string v2] 30 := by rw [hW9, hR8]; exact Blk.new w8 _ _
   have hfp9 : FrP P W3 W9 := k8.out.2.old hO9
   have hTR : T < R8 := by have := hTA.out.lt; have := k8.out.2.size; omega
   have hS9 : SP P s q vd W3 (a1 + (attrsOut (kv.take (i + 1))).length) W9 := k8.out.old hO9
   rw [<- hW9, <- hR8]
   replace hW9 := zz hW9
   replace hR8 := zz hR8
   have hrow9 := ownsRow_frame hrow.out hfp9 (fun k hk e => by have := hown.out k hk; omega)
   have hT9 : Blk W9 T #[.int .i64 1, .string ⟨#[]⟩, .string l, .slice pa (i : Nat) ca, .string ⟨#[]⟩, .int .i64 0] 28 := hTA.out.keep hfp9 hTP
   have c3 : W9.cell? ⟨T, 3, none⟩ = some (.slice pa (i : Nat) ca) := by rw [hT9.cell]; rfl
   replace hrow9 := zz hrow9
   replace hT9 := zz hT9
   replace hS9 := zz hS9
   replace hb9 := zz hb9
   replace hfp9 := zz hfp9
   obtain ⟨ko, rfl⟩ : ∃ ko, ko = gk := ⟨_, rfl⟩
   clear hO9 k8 hTc
   go_wp2
   go_loopg [58] i (fun k u58 w10 => ∃ j : Nat, u58 = .int .i64 j /\ j + k = i /\ Old W9 w10)
   case atStart => exact ⟨0, rfl, by omega, Fr.refl _ _⟩
   case round =>
    obtain ⟨j, rfl, hjk, hO10⟩ := hrel
    obtain ⟨W10, rfl⟩ : ∃ W10, W10 = wr := ⟨_, rfl⟩
    by_cases hj : j < i
    ·obtain ⟨gx, capx, hvx, _, hcx⟩ := ownsRow_some hrow9.out (by omega)
     obtain rfl : pa = some ⟨gx, 0, none⟩ := by injection hvx
     obtain ⟨lj, vj, x1, x2, x3, x4⟩ := hdis2.out j hj
     have q0 := hO10.cell (hcx _ _ x1)
     have q1 := hO10.cell (hcx _ _ x2)
     have q2 := hO10.cell (hcx _ _ x3)
     have x5 : (l2.toList == lj.toList) = false := by rw [beq_eq_false_iff_ne]; exact x4
     have x6 : (lj.toList == l2.toList) = false := by rw [beq_eq_false_iff_ne]; exact fun e => x4 e.symm
     have x7 : ¬ lj.toList = l2.toList := fun e => x4 e.symm
     have hj2 : (j : Int) < (i : Int) := by omega
     have hI : IntKind.i64.wrap ((j : Int) + 1) = ((j + 1 : Nat) : Int) := by rw [IntWalk.i64_in _ (by omega)]; omega
     have hO11 : Old W10 (W10.alloc (.cells #[.string ⟨#[]⟩, .string lj, .string vj] 30)) := (Fr.refl _ W10).alloc _
     have hbR := (hb9.out.keep hO10 (fun h => h)).keep hO11 (fun h => h)
     replace hI := zz hI
     replace hO10 := zz hO10
     replace hO11 := zz hO11
     replace hjk := zz hjk
     replace hbR := zz hbR
     clear hvx hcx x1 x2 x3
     go_upto_region 22 with fail
     obtain ⟨W11, hW11⟩ : ∃ W11, W11 = W10.alloc (.cells #[.string ⟨#[]⟩, .string lj, .string vj] 30) := ⟨_, rfl⟩
     have hbB : Blk W11 W10.heap.size #[.string ⟨#[]⟩, .string lj, .string vj] 30 := by rw [hW11]; exact Blk.new W10 _ _
     rw [<- hW11] at hO11 hbR ⊢
     generalize W10.heap.size = R10 at *
     have y0 : W11.cell? ⟨R10, 0, none⟩ = some (.string ⟨#[]⟩) := by rw [hbB.cell]; rfl
     have y1 : W11.cell? ⟨R10, 1, none⟩ = some (.string lj) := by rw [hbB.cell]; rfl
     have y2 : W11.cell? ⟨R8, 0, none⟩ = some (.string ⟨#[]⟩) := by rw [hbR.out.cell]; rfl
     have y3 : W11.cell? ⟨R8, 1, none⟩ = some (.string l2) := by rw [hbR.out.cell]; rfl
     replace hW11 := zz hW11
     have hO12 : Old W9 W11 := hO10.out.trans hO11.out (fun _ h => .inl h)
     replace hO12 := zz hO12
     clear hbB q0 q1 q2
     go_wp2
     go_roundg (gk - 1)
     case measure => have := hjk.out; omega
     case rel => exact ⟨j + 1, rfl, by have := hjk.out; omega, hO12.out⟩
    ·have hj2 : ¬ (j : Int) < (i : Int) := by omega
     obtain ⟨i0, hi0, hz0, hz1, hz2⟩ := info_parts info30
     have hT10 := hT9.out.keep hO10 (fun h => h)
     have hb10 := hb9.out.keep hO10 (fun h => h)
     have hrow10 := ownsRow_frame hrow9.out hO10 (fun _ _ h => h)
     have c3' : W10.cell? ⟨T, 3, none⟩ = some (.slice pa (i : Nat) ca) := by rw [hT10.cell]; rfl
     have y0 : W10.cell? ⟨R8, 0, none⟩ = some (.string ⟨#[]⟩) := by rw [hb10.cell]; rfl
     have y1 : W10.cell? ⟨R8, 1, none⟩ = some (.string l2) := by rw [hb10.cell]; rfl
     have y2 : W10.cell? ⟨R8, 2, none⟩ = some (.string v2) := by rw [hb10.cell]; rfl
     replace hT10 := zz hT10
     replace hrow10 := zz hrow10
     replace hO10 := zz hO10
     clear hb10 hjk
     go_wp2_with (at_builtin; refine wpList_append rfl _ _ 26 rfl 30 i0 _ 3 48 Tryz.underlying26 hi0 hz0 hz1 hz2 rfl (by decide) _ i (atsC (kvA (kv.take i))) (by rfl) (ownsRow_frame (F := fun _ => False) hrow10.out ((Fr.refl _ W10).alloc _) (fun _ _ h => h)) _ 1 1 [.string ⟨#[]⟩, .string l2, .string v2] (by rfl) (by rfl) (by decide) (news_alloc _ [.string ⟨#[]⟩, .string l2, .string v2] 30) (by intro u hu; simp at hu; rcases hu with rfl | rfl | rfl <;> rfl) (by unfold maxLen; omega) (by omega) ?_; intro g' c' w12 hrow2 hgrow hnb; have f12 := ((Fr.refl (fun x => (Value.slice pa (i : Nat) ca).ownBlock = some x) W10).alloc _).grown hgrow (fun k hk => Or.inl hk); have hT12 := hT10.out.keep f12 (fun e => Nat.lt_irrefl _ (hown.out _ e)); have t3 : w12.cell? ⟨T, 3, none⟩ = some (.slice pa (i : Nat) ca) := (by rw [hT12.cell]; rfl); have tf := hT12.fz 3; replace hrow2 := zz hrow2; replace hnb := zz hnb; replace f12 := zz f12; replace hT12 := zz hT12; clear hgrow)
     have e2 : atsC (kvA (kv.take (i + 1))) = atsC (kvA (kv.take i)) ++ [.string ⟨#[]⟩, .string l2, .string v2] := by rw [hta.out]; simp [atsC]
     have hgT : T < g' := by
      rcases hnb.out with h | h
      ·exact hown.out g' h
      ·have := hT10.out.lt; simp at h; omega
     replace e2 := zz e2
     go_roundg (ko - 1)
     case measure => have := hik.out; omega
     case rel =>
      refine ⟨i + 1, some ⟨g', 0, none⟩, c', by have := hik.out; omega, ⟨?_, ?_⟩, ?_, ?_, ?_⟩
      ·exact ((hS9.out.1.keep hO10.out (fun h => h)).keep f12.out (fun e => by have := hown.out P e; omega)).set_ne (fun e => hTP e.symm) _
      ·have g1 : FrP P w W10 := (frp_tr hSA.out.2 hfp9.out).old hO10.out
       have g2 : FrP P w w12 := g1.trans f12.out (fun x hx => .inr (by have := hown.out x hx; omega))
       exact g2.set (Or.inr hTw) _ _
      ·exact hT12.out.set 3 _
      ·rw [e2.out]; exact ownsRow_setCell hrow2.out (fun e => by have : g' = T := (by simpa [Value.ownBlock] using e); omega) _
      ·intro k hk
       have hk2 : g' = k := by simpa [Value.ownBlock] using hk
       omega
  ·have hie : i = kv.length := by omega
   subst hie
   have hgo1 : s.data.toList.drop A = [62] ++ rest := by rw [hgo, List.drop_length]; rfl
   have hA' : A + 1 = a1 + (attrsOut kv).length + 1 := by rw [hA, List.take_length]
   have hszA := at_le hgo1 hAs
   simp only [List.length_append, List.length_cons, List.length_nil] at hszA
   have hlt := h.out.lt
   have hbl : Calls Tryz.prog 131 #[.pointer (some ⟨P, 0, none⟩)] W3 fun e w' => e = .returned (.bool false) /\ Hid (SP P s q vd W3 A w') := (SP.start hSA.1).blanksY hz hAs [] _ hgo1 (fun c hc => by cases hc) (fun d u e => by injection e with e _; rw [<- e]; decide)
   have hh1 : ∀ w3, SP P s q vd W3 A w3 -> Calls Tryz.prog 76 #[.pointer (some ⟨P, 0, none⟩), .string ⟨#[62]⟩] w3 fun e w' => e = .returned (.bool true) /\ (w'.cell? ⟨T, 0, none⟩ = some (.int .i64 1) /\ w'.cell? ⟨T, 1, none⟩ = some (.string ⟨#[]⟩) /\ w'.cell? ⟨T, 2, none⟩ = some (.string l) /\ w'.cell? ⟨T, 3, none⟩ = some (.slice pa (kv.length : Nat) ca) /\ w'.cell? ⟨T, 4, none⟩ = some (.string ⟨#[]⟩) /\ w'.cell? ⟨T, 5, none⟩ = some (.int .i64 0)) /\ Hid (SP P s q vd W3 (A + 1) w') := fun w3 k => (k.hasY hz hAs [62] rest hgo1 (by decide)).mono (fun e w' x => ⟨x.1, hTc.out _ x.2.2.out.2, x.2.2⟩)
   have hop : ∀ w3, SP P s q vd W3 (A + 1) w3 -> Calls Tryz.prog 135 #[.pointer (some ⟨P, 0, none⟩), .agg #[.int .i64 1, .string ⟨#[]⟩, .string l, .slice pa (kv.length : Nat) ca, .string ⟨#[]⟩, .int .i64 0], .bool false] w3 fun e w' => e = .returned (.bool true) /\ Hid (AddP P s base w (a1 + (attrsOut kv).length + 1) q vd gs 1 w') := fun w3 k => by
    have k' : SP P s q vd w (A + 1) w3 := k.from hSA.2
    have hkl2 : (kvA (kv.take kv.length)).length = kv.length := by simp [kvA]
    have hAG : AttrG w3 (SA P q) (.slice pa (kv.length : Nat) ca) (kvA (kv.take kv.length)) := by
     refine ⟨?_, fun k hk e => ?_, by rw [hkl2]; omega⟩
     ·rw [hkl2]; exact ownsRow_frame hrow k.2 (fun k hk e => by have := hown k hk; omega)
     ·have h3 := hown k hk
      have h4 := hlt k e
      omega
    refine (opened_raw P s base w3 (A + 1) q vd gs (h.out.sp k') hn (Nat.le_trans hbase.out k'.2.size) l pa kv.length ca _ hAG).mono ?_
    rintro e w' ⟨rfl, x⟩
    rw [<- hA']
    exact ⟨rfl, x.out.from k'.2⟩
   replace hbl := zz hbl
   replace hh1 := zz hh1
   replace hop := zz hop
   clear hgo hgo1 hszA hlt hA' hA hSA hTA hrow hown hik hAs hbn
   go_wp2_with (first
    | (go_at_call 131; refine hbl.out.mono ?_; rintro e w4 ⟨rfl, k4⟩)
    | (go_at_call 76; refine (hh1.out _ k4.out).mono ?_; rintro e w5 ⟨rfl, ⟨c0, c1, c2, c3, c4, c5⟩, k5⟩)
    | (go_at_call 135; refine (hop.out _ k5.out).mono ?_; rintro e w6 ⟨rfl, k6⟩))
   go_ret
   exact ⟨rfl, k6.out⟩
end
end Go.Proofs.YtepbbahdhhjibaaGreatDoor
