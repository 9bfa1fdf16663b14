/- own text -/
import Derived.Test.YtepbbahdhhjibaaGreatDoorC38
namespace Go.Proofs.YtepbbahdhhjibaaGreatDoor
set_option linter.unusedSimpArgs false
set_option linter.unusedVariables false
set_option maxHeartbeats 8000000
set_option maxRecDepth 100000
open Go.RowKit
structure AttP (P : Nat) (s : ByteArray) (a : Nat) (q : PV) (vd : Int) (w : World) (e : Ending) (w' : World) : Prop where
 ex : ∃ (p l v : ByteArray) (ok : Bool), e = .returned (.tuple #[.agg #[.string p, .string l, .string v], .bool ok]) /\ ((ok = false /\ FailP P s q w w') \/ (ok = true /\ ∃ a', a < a' /\ a' <= s.size /\ SP P s q vd w a' w' /\ (p.size = 0 -> p = ⟨#[]⟩ /\ ∃ A : At, A.ok /\ A.ws0 = [] /\ l = nameB A.nm /\ v = nameB A.rs /\ s.data.toList.drop a = A.src ++ s.data.toList.drop a' /\ a' = a + A.src.length)))
structure PreA (s : ByteArray) (a b : Nat) (p l : ByteArray) (dbl : Bool) : Prop where
 lt : a < b
 le : b <= s.size
 ex : p.size = 0 -> p = ⟨#[]⟩ /\ ∃ nm ws1 ws2, NameOk nm /\ l = nameB nm /\ (∀ c ∈ ws1, isWs c = true) /\ (∀ c ∈ ws2, isWs c = true) /\ s.data.toList.drop a = nb nm ++ (ws1 ++ 61 :: (ws2 ++ quo dbl :: s.data.toList.drop b)) /\ b = a + (nb nm).length + ws1.length + ws2.length + 2
theorem PreA.fin {s : ByteArray} {a b : Nat} {p l : ByteArray} {dbl : Bool} (h : PreA s a b p l dbl) {els : List El} {rs : List Nat} {rest : List UInt8} {refs : List UInt8} (hd : s.data.toList.drop b = srcs els ++ quo dbl :: rest) (ht : TxS (quoL dbl) false true els rs refs) : p.size = 0 -> p = ⟨#[]⟩ /\ ∃ A : At, A.ok /\ A.ws0 = [] /\ l = nameB A.nm /\ nameB rs = nameB A.rs /\ s.data.toList.drop a = A.src ++ s.data.toList.drop (b + (srcs els).length + 1) /\ b + (srcs els).length + 1 = a + A.src.length := fun hp => by
 obtain ⟨h1, nm, ws1, ws2, h2, h3, h4, h5, h6, h7⟩ := h.ex hp
 have h8 : s.data.toList.drop (b + (srcs els).length + 1) = rest := (at_byte (at_go hd)).2.2
 refine ⟨h1, ⟨[], nm, ws1, ws2, dbl, els, rs⟩, ⟨fun _ h => (by cases h), h4, h5, h2, ht.ok, ht.out, ht.ch⟩, rfl, h3, rfl, ?_, ?_⟩
 ·rw [h6, hd, h8]
  simp [At.src]
 ·simp [At.src]; omega
theorem attribute_do (P : Nat) (s : ByteArray) (w : World) (a : Nat) (q : PV) (vd : Int) (h : PB w P s a q vd) (hz : s.size <= 1000000) (haz : a <= s.size) :
  Calls Tryz.prog 136 #[.pointer (some ⟨P, 0, none⟩)] w (AttP P s a q vd w) := by
 have hPw := h.lt
 obtain ⟨R, hR⟩ : ∃ R, R = w.heap.size := ⟨_, rfl⟩
 obtain ⟨W0, hW0⟩ : ∃ W0, W0 = w.alloc (.cells #[.string ⟨#[]⟩, .string ⟨#[]⟩, .string ⟨#[]⟩] 30) := ⟨_, rfl⟩
 have hO0 : Old w W0 := by rw [hW0]; exact (Fr.refl _ w).alloc _
 have hb0 : Blk W0 R #[.string ⟨#[]⟩, .string ⟨#[]⟩, .string ⟨#[]⟩] 30 := by rw [hW0, hR]; exact Blk.new w _ _
 have hRP : ¬ R = P := by omega
 have hst : SP P s q vd W0 a W0 := SP.start (h.keep hO0 (fun h => h))
 have hrc : ∀ w1, FrP P W0 w1 -> w1.cell? ⟨R, 0, none⟩ = some (.string ⟨#[]⟩) /\ w1.cell? ⟨R, 1, none⟩ = some (.string ⟨#[]⟩) /\ w1.cell? ⟨R, 2, none⟩ = some (.string ⟨#[]⟩) /\ ∀ i, w1.frozen? ⟨R, i, none⟩ = false := fun w1 f => by
  have hb := hb0.keep f hRP
  exact ⟨by rw [hb.cell]; rfl, by rw [hb.cell]; rfl, by rw [hb.cell]; rfl, hb.fz⟩
 have hre : ∀ (w1 : World), FrP P W0 w1 -> ∀ v0 v1 v2 : Value, (((w1.setCell ⟨R, 0, none⟩ v0).setCell ⟨R, 1, none⟩ v1).setCell ⟨R, 2, none⟩ v2).cell? ⟨R, 0, none⟩ = some v0 /\ (((w1.setCell ⟨R, 0, none⟩ v0).setCell ⟨R, 1, none⟩ v1).setCell ⟨R, 2, none⟩ v2).cell? ⟨R, 1, none⟩ = some v1 /\ (((w1.setCell ⟨R, 0, none⟩ v0).setCell ⟨R, 1, none⟩ v1).setCell ⟨R, 2, none⟩ v2).cell? ⟨R, 2, none⟩ = some v2 := fun w1 f v0 v1 v2 => by
  have hb := (((hb0.keep f hRP).set 0 v0).set 1 v1).set 2 v2
  exact ⟨by rw [hb.cell]; rfl, by rw [hb.cell]; rfl, by rw [hb.cell]; rfl⟩
 have hfr : ∀ (w1 : World) (v0 v1 v2 : Value), FrP P W0 w1 -> FrP P w (((w1.setCell ⟨R, 0, none⟩ v0).setCell ⟨R, 1, none⟩ v1).setCell ⟨R, 2, none⟩ v2) := fun w1 v0 v1 v2 f => by
  have f0 : FrP P w w1 := (Fr.of_old hO0).trans f (fun _ h => .inl h)
  exact ((f0.set (Or.inr (by rw [hR]; exact Nat.le_refl _)) _ _).set (Or.inr (by rw [hR]; exact Nat.le_refl _)) _ _).set (Or.inr (by rw [hR]; exact Nat.le_refl _)) _ _
 have hpb : ∀ (w1 : World) (v0 v1 v2 : Value) (b : Nat) (vd' : Int), PB w1 P s b q vd' -> PB (((w1.setCell ⟨R, 0, none⟩ v0).setCell ⟨R, 1, none⟩ v1).setCell ⟨R, 2, none⟩ v2) P s b q vd' := fun w1 v0 v1 v2 b vd' hb =>
  hb.keep ((((Fr.refl (fun x => x = R) w1).set (Or.inl rfl) _ _).set (Or.inl rfl) _ _).set (Or.inl rfl) _ _) (fun e => hRP e.symm)
 have hFail : ∀ (w1 : World) (v0 v1 v2 : Value), FailP P s q W0 w1 -> AttP P s a q vd w (.returned (.tuple #[.agg #[.string ⟨#[]⟩, .string ⟨#[]⟩, .string ⟨#[]⟩], .bool false])) (((w1.setCell ⟨R, 0, none⟩ v0).setCell ⟨R, 1, none⟩ v1).setCell ⟨R, 2, none⟩ v2) := fun w1 v0 v1 v2 hf => by
  obtain ⟨⟨a', vd', h1, h2, h3, h4⟩⟩ := hf
  exact ⟨⟨_, _, _, false, rfl, .inl ⟨rfl, ⟨a', vd', h1, h2, hpb _ _ _ _ _ _ h3, hfr _ _ _ _ h4⟩⟩⟩⟩
 have hSP : ∀ (w1 : World) (v0 v1 v2 : Value) (b : Nat), SP P s q vd W0 b w1 -> SP P s q vd w b (((w1.setCell ⟨R, 0, none⟩ v0).setCell ⟨R, 1, none⟩ v1).setCell ⟨R, 2, none⟩ v2) := fun w1 v0 v1 v2 b k => ⟨hpb _ _ _ _ _ _ k.1, hfr _ _ _ _ k.2⟩
 have hnm : Calls Tryz.prog 130 #[.pointer (some ⟨P, 0, none⟩)] W0 fun e w' => ∃ (p l : ByteArray) (ok : Bool), e = .returned (.tuple #[.string p, .string l, .bool ok]) /\ Hid ((ok = false /\ FailP P s q W0 w') \/ (ok = true /\ ∃ a', a <= a' /\ a' <= s.size /\ SP P s q vd W0 a' w' /\ (p.size = 0 -> p = ⟨#[]⟩ /\ ∃ nm, NameOk nm /\ l = ⟨(nb nm).toArray⟩ /\ s.data.toList.drop a = nb nm ++ s.data.toList.drop a' /\ a' = a + (nb nm).length))) := by
  refine (name2_do P s a q vd W0 hst.1 hz haz).mono ?_
  rintro e w' ⟨p, l, ok, rfl, _, _, hk⟩
  exact ⟨p, l, ok, rfl, hk⟩
 have hff : ∀ w1, FailP P s q W0 w1 -> FrP P W0 w1 := fun w1 hf => by
  obtain ⟨⟨a', vd', h1, h2, h3, h4⟩⟩ := hf
  exact h4
 replace hrc := zz hrc
 replace hre := zz hre
 replace hFail := zz hFail
 replace hSP := zz hSP
 replace hnm := zz hnm
 replace hff := zz hff
 replace hst := zz hst
 clear h hfr hpb hb0 hO0 hRP
 go_enter Tryz.func136, Tryz.ntmps136
 go_upto_region 1 with (fail)
 rw [<- hW0, <- hR]
 replace hW0 := zz hW0
 replace hR := zz hR
 go_upto_region 2 with (go_at_call 130; refine hnm.out.mono ?_; rintro e w1 ⟨p, l, ok, rfl, k1⟩)
 cases ok with
 | false =>
  have k1' := (k1.out.resolve_right (fun h => by cases h.1)).2
  obtain ⟨r0, r1, r2, rf⟩ := hrc.out _ (hff.out _ k1')
  have re := hre.out _ (hff.out _ k1')
  replace k1' := zz k1'
  go_wp2
  refine bodyPost_ret (by rw [results_cell_tmp rfl]; go_simp; try rfl) rfl ?_
  exact hFail.out _ _ _ _ k1'.out
 | true =>
  obtain ⟨_, a1, h1, h2, k2, hn⟩ := k1.out.resolve_left (fun h => by cases h.1)
  have hbl := k2.blanks hz h2
  replace hn := zz hn
  replace hbl := zz hbl
  clear k1 hnm k2
  go_upto_region 5 with (go_at_call 131; refine hbl.out.mono ?_; rintro e w2 ⟨b1, rfl, k2⟩)
  obtain ⟨ws1, rest1, _, hL1, hw1, _, k3⟩ := k2.out
  have hs1 := at_le hL1 h2
  have hg1 := at_go hL1
  obtain ⟨a2, ha2⟩ : ∃ a2, a2 = a1 + ws1.length := ⟨_, rfl⟩
  rw [<- ha2] at k3 hs1 hg1
  have h3 : a2 <= s.size := by omega
  clear k2 hbl
  rcases lit_or [61] rest1 with ⟨r1, rfl⟩ | hno
  ·have hh := k3.hasY hz h3 [61] r1 hg1 (by decide)
   have h4 : a2 + 1 <= s.size := by simp at hs1; omega
   have hg2 : s.data.toList.drop (a2 + 1) = r1 := at_go (l := [61]) hg1
   have hbl : ∀ w1, SP P s q vd W0 (a2 + 1) w1 -> Calls Tryz.prog 131 #[.pointer (some ⟨P, 0, none⟩)] w1 fun e w' => ∃ b : Bool, e = .returned (.bool b) /\ Hid (∃ ws rest, b = !ws.isEmpty /\ s.data.toList.drop (a2 + 1) = ws ++ rest /\ (∀ c ∈ ws, isWs c = true) /\ (∀ c t, rest = c :: t -> isWs c = false) /\ SP P s q vd W0 (a2 + 1 + ws.length) w') := fun w1 k => k.blanks hz h4
   replace hh := zz hh
   replace hbl := zz hbl
   replace hL1 := zz hL1
   replace hg2 := zz hg2
   replace ha2 := zz ha2
   clear k3 hg1 hs1
   go_upto_region 9 with (first
    | (go_at_call 131; refine (hbl.out _ k4.out).mono ?_; rintro e w4 ⟨b2, rfl, k5⟩)
    | (go_at_call 76; refine hh.out.mono ?_; rintro e w3 ⟨rfl, _, k4⟩))
   obtain ⟨ws2, rest2, _, hL2, hw2, _, k6⟩ := k5.out
   have hs2 := at_le hL2 h4
   have hg3 := at_go hL2
   obtain ⟨a4, ha4⟩ : ∃ a4, a4 = a2 + 1 + ws2.length := ⟨_, rfl⟩
   rw [<- ha4] at k6 hs2 hg3
   have h5 : a4 <= s.size := by omega
   have hpre : ∀ dbl t, rest2 = quo dbl :: t -> PreA s a (a4 + 1) p l dbl := fun dbl t ht => by
    rw [ht] at hg3
    obtain ⟨x1, x2, x3⟩ := at_byte hg3
    refine ⟨by have := ha2.out; omega, by omega, fun hp => ?_⟩
    obtain ⟨y1, nm, y2, y3, y4, y5⟩ := hn.out hp
    refine ⟨y1, nm, ws1, ws2, y2, y3, hw1, hw2, ?_, by have := ha2.out; omega⟩
    rw [y4, hL1.out, <- hg2.out, hL2, ht, x3]; rfl
   replace hpre := zz hpre
   clear k4 k5 hh hbl hL1 hg2 hn hL2 hs2
   have hf1 := k6.fail 1 (by decide) h5
   rcases lit_or [34] rest2 with ⟨r2, rfl⟩ | hno1
   ·have hh := k6.hasY hz h5 [34] r2 hg3 (by decide)
    have hA := hpre.out true r2 rfl
    replace hh := zz hh
    replace hA := zz hA
    clear hpre k6 hg3 hf1
    go_wp2_with (go_at_call 76; refine hh.out.mono ?_; rintro e w6 ⟨rfl, _, kq⟩)
    obtain ⟨D, hD⟩ : ∃ D, D = a4 + 1 := ⟨_, rfl⟩
    have hA' : PreA s a D p l true := by rw [hD]; exact hA.out
    have kq' : SP P s q vd W0 D w6 := by rw [hD]; exact kq.out
    replace hA' := zz hA'
    replace kq' := zz kq'
    clear kq hA hD hh
    have hDs := hA'.out.le
    go_loopg [8] (s.size - D) (fun k x8 wr => ∃ els rs rest, x8 = .string (nameB rs) /\ s.data.toList.drop D = srcs els ++ rest /\ rest.length = k /\ TxS (quoL true) false true els rs rest /\ SP P s q vd W0 (D + (srcs els).length) wr)
    case atStart => exact ⟨[], [], s.data.toList.drop D, rfl, rfl, by rw [List.length_drop, <- Lib.size_eq], TxS.nil, kq'.out⟩
    case round =>
     obtain ⟨els, rs, rest, rfl, hL, hk, hT, hB⟩ := hrel
     have hsz := at_le hL hDs
     have hgo := at_go hL
     obtain ⟨A, hA⟩ : ∃ A, A = D + (srcs els).length := ⟨_, rfl⟩
     rw [<- hA] at hB hsz hgo
     have hAs : A <= s.size := by omega
     obtain ⟨X, hX⟩ : ∃ X, X = nameB rs := ⟨_, rfl⟩
     rw [<- hX]
     have hXz : X.size <= 1000000 := by
      have e1 := elsOut_le hT.ok
      rw [hT.out] at e1
      have e2 : X.size = (nb rs).length := by rw [hX, Lib.size_eq]; rfl
      omega
     have hadd : ∀ (x : ByteArray) (w1 : World), x.size <= 4 -> (Op.stringOp .add X x).run Tryz.prog w1 = .ok (.string (X ++ x)) w1 := fun x w1 hx => run_string_add_sum w1 _ _ (by omega)
     replace hadd := zz hadd
     clear hXz kq'
     rcases lit_or [34] rest with ⟨t', rfl⟩ | hno
     ·have hA3 : A + 1 <= s.size := by simp at hsz; omega
      have hh := (hB.hasY hz hAs [34] t' hgo (by decide)).mono (R' := fun e w' => e = .returned (.bool true) /\ (w'.cell? ⟨R, 0, none⟩ = some (.string ⟨#[]⟩) /\ w'.cell? ⟨R, 1, none⟩ = some (.string ⟨#[]⟩) /\ w'.cell? ⟨R, 2, none⟩ = some (.string ⟨#[]⟩) /\ ∀ i, w'.frozen? ⟨R, i, none⟩ = false) /\ Hid (SP P s q vd W0 (A + 1) w')) (fun e w' x => ⟨x.1, hrc.out _ x.2.2.out.2, x.2.2⟩)
      have hfin := hA'.out.fin (dbl := true) hL hT
      have hlt := hA'.out.lt
      rw [<- hA, <- hX] at hfin
      replace hh := zz hh
      replace hfin := zz hfin
      replace hA := zz hA
      clear hX hT hL hsz hgo hk hB hadd hA'
      go_wp2_with (go_at_call 76; refine hh.out.mono ?_; rintro e w7 ⟨rfl, ⟨r0, r1, r2, rf⟩, k7⟩)
      have re := hre.out _ k7.out.2
      refine bodyPost_ret (by rw [results_cell_tmp rfl]; go_simp; try rfl) rfl ?_
      exact ⟨⟨p, l, X, true, rfl, .inr ⟨rfl, A + 1, by have := hA.out; omega, hA3, hSP.out _ _ _ _ _ k7.out, hfin.out⟩⟩⟩
     ·have hh1 := hB.hasN hz hAs [34] (by rw [hgo]; exact take_ne hno) (by decide)
      have hf : ∀ (w1 : World) (v : Int), v ≠ 0 -> SP P s q vd W0 A w1 -> Calls Tryz.prog 82 #[.pointer (some ⟨P, 0, none⟩), .int .i64 v] w1 fun e w' => e = .returned (.bool false) /\ (w'.cell? ⟨R, 0, none⟩ = some (.string ⟨#[]⟩) /\ w'.cell? ⟨R, 1, none⟩ = some (.string ⟨#[]⟩) /\ w'.cell? ⟨R, 2, none⟩ = some (.string ⟨#[]⟩) /\ ∀ i, w'.frozen? ⟨R, i, none⟩ = false) /\ Hid (FailP P s q W0 w') := fun w1 v hv k => (k.fail v hv hAs).mono (fun e w' x => ⟨x.1, hrc.out _ (hff.out _ x.2.out), x.2⟩)
      replace hf := zz hf
      replace hh1 := zz hh1
      rcases rest with _ | ⟨c, t⟩
      ·have he := fun (w1 : World) (k : SP P s q vd W0 A w1) => quietly (fun n => (k.drewN n).endY (by simp at hsz; omega))
       replace he := zz he
       clear hX hT hL hsz hgo hk hB hadd hA' hA hno
       go_wp2_with (go_at_call 76; refine hh1.out.mono ?_; rintro e w7 ⟨rfl, ⟨c0, c1, cf⟩, k7⟩)
       go_quiet (first | (go_at_call 42; exact he.out _ k7.out _))
       go_wp2_with (go_at_call 82; refine (hf.out _ _ (by decide) (k7.out.drewN _)).mono ?_; rintro e w8 ⟨rfl, ⟨r0, r1, r2, rf⟩, k8⟩)
       have re := hre.out _ (hff.out _ k8.out)
       refine bodyPost_ret (by rw [results_cell_tmp rfl]; go_simp; try rfl) rfl ?_
       exact hFail.out _ _ _ _ k8.out
      ·obtain ⟨h1, h2, h3⟩ := at_byte hgo
       have he := fun (w1 : World) (k : SP P s q vd W0 A w1) => quietly (fun n => (k.drewN n).endN h1)
       have i1 : (A : Int) < (s.size : Int) := by omega
       replace he := zz he
       have hws : ∀ w1, SP P s q vd W0 A w1 -> Calls Tryz.prog 28 #[.int .u8 c.toNat] w1 fun e w' => e = .returned (.bool (isWs c)) /\ Hid (SP P s q vd W0 A w') := fun w1 k => (spSpace_do c w1).mono (fun e w' x => ⟨x.1, k.drw x.2⟩)
       obtain ⟨n, hn⟩ : ∃ n, n = c.toNat := ⟨_, rfl⟩
       rw [<- hn] at h2 hws
       by_cases h60 : c = 60
       ·have hn60 : n = 60 := by rw [hn, h60]; rfl
        subst hn60
        replace hn := zz hn
        clear hX hT hL hsz hgo hk hB hadd hA' hA hno hws h3
        go_wp2_with (go_at_call 76; refine hh1.out.mono ?_; rintro e w7 ⟨rfl, ⟨c0, c1, cf⟩, k7⟩)
        go_quiet (first | (go_at_call 42; exact he.out _ k7.out _))
        go_wp2_with (go_at_call 82; refine (hf.out _ _ (by decide) (k7.out.drewN _)).mono ?_; rintro e w8 ⟨rfl, ⟨r0, r1, r2, rf⟩, k8⟩)
        have re := hre.out _ (hff.out _ k8.out)
        refine bodyPost_ret (by rw [results_cell_tmp rfl]; go_simp; try rfl) rfl ?_
        exact hFail.out _ _ _ _ k8.out
       ·have e60 : ((n : Int) == 60) = false := by
         rw [beq_eq_false_iff_ne]; intro e
         apply h60
         exact UInt8.toNat_inj.1 (by rw [<- hn]; show n = 60; omega)
        have hd : (isWs c = false \/ c = 32) -> ∀ (w1 : World), SP P s q vd W0 A w1 -> Calls Tryz.prog 128 #[.pointer (some ⟨P, 0, none⟩)] w1 fun e w' => ∃ (x : ByteArray) (ok : Bool), e = .returned (.tuple #[.string x, .bool ok]) /\ (w'.cell? ⟨R, 0, none⟩ = some (.string ⟨#[]⟩) /\ w'.cell? ⟨R, 1, none⟩ = some (.string ⟨#[]⟩) /\ w'.cell? ⟨R, 2, none⟩ = some (.string ⟨#[]⟩) /\ ∀ i, w'.frozen? ⟨R, i, none⟩ = false) /\ Hid ((ok = false /\ FailP P s q W0 w') \/ (ok = true /\ NxP P s D q vd W0 (quoL true) false gk (X ++ x) w')) /\ Hid (ok = true -> ∀ w1, (Op.stringOp .add X x).run Tryz.prog w1 = .ok (.string (X ++ x)) w1) := fun hcw w1 k => by
         refine (k.data hz h1).mono ?_
         rintro e w' ⟨x, ok, rfl, h4⟩
         by_cases hx : ok = false
         ·have hfl := (h4.out.resolve_right (fun h => by rw [hx] at h; cases h.1)).2
          exact ⟨x, ok, rfl, hrc.out _ (hff.out _ hfl), .inl ⟨hx, hfl⟩, fun h => absurd h (by rw [hx]; decide)⟩
         ·obtain ⟨_, els', r', rest', rfl, hr, hC, hL', hS⟩ := h4.out.resolve_left (fun h => hx h.1)
          have hne : srcs els' ≠ [] := hC.ne
          have hd : (srcs els').head? = some c := by
           rw [hgo] at hL'
           cases hs : srcs els' with
           | nil => exact absurd hs hne
           | cons y z => rw [hs] at hL'; injection hL' with e1 _; rw [<- e1]; rfl
          have h13 : c ≠ 13 := by
           rintro rfl
           rcases hcw with h | h
           ·exact absurd h (by decide)
           ·exact absurd h (by decide)
          have hT' : TxS (quoL true) false true (els ++ els') (rs ++ [r']) rest' := by
           refine hC.go (by rw [<- hL', hgo]; exact hT) hr ?_ ?_ (fun h => by cases h)
           ·intro x hx
            rw [hd]
            simp [quoL] at hx
            rcases hx with rfl | rfl | rfl
            ·exact ⟨by decide, fun _ e => h60 (Option.some.inj e)⟩
            ·exact ⟨by decide, fun e => absurd rfl e⟩
            ·exact ⟨by decide, fun _ e => hno t (by rw [Option.some.inj e]; rfl)⟩
           ·rw [hd]; exact fun e => h13 (Option.some.inj e)
          have e5 : (c :: t).length = (srcs els').length + rest'.length := by rw [<- hgo, hL', List.length_append]
          have e6 := List.length_pos_iff.2 hne
          refine ⟨_, ok, rfl, hrc.out _ hS.2, .inr ⟨by simpa using hx, ⟨⟨els ++ els', rs ++ [r'], rest', by rw [hX, nameB_snoc], ?_, by omega, hT', ?_⟩⟩⟩, fun _ w1 => hadd.out _ w1 (u8_len r').2⟩
          ·rw [hL, srcs_app, List.append_assoc, <- hgo, hL']
          ·have : D + (srcs (els ++ els')).length = A + (srcs els').length := by rw [hA, srcs_app, List.length_append]; omega
           rw [this]; exact hS
        have hcs : (n = 32 /\ c = 32) \/ ((((n : Int) != 32) = true /\ ((n : Int) == 32) = false /\ ¬ n = 32) /\ isWs c = true) \/ ((((n : Int) != 32) = true /\ ((n : Int) == 32) = false /\ ¬ n = 32) /\ isWs c = false) := by
         by_cases h32 : c = 32
         ·have : n = 32 := by rw [hn, h32]; rfl
          exact .inl ⟨this, h32⟩
         ·have e0 : ¬ n = 32 := fun e => h32 (UInt8.toNat_inj.1 (by rw [<- hn]; exact e))
          have e32 : ((n : Int) != 32) = true /\ ((n : Int) == 32) = false /\ ¬ n = 32 := ⟨by rw [bne_iff_ne]; omega, by rw [beq_eq_false_iff_ne]; omega, e0⟩
          cases hw : isWs c
          ·exact .inr (.inr ⟨e32, rfl⟩)
          ·exact .inr (.inl ⟨e32, rfl⟩)
        replace hn := zz hn
        clear hX hT hL hsz hgo hk hB hadd hA' hA hno h3 h1
        rcases hcs with ⟨rfl, hc32⟩ | ⟨⟨e32, e33, e34⟩, hc32⟩ | ⟨⟨e32, e33, e34⟩, hc32⟩
        ·have hd := hd (.inr hc32)
         replace hd := zz hd
         replace hc32 := zz hc32
         go_wp2_with (go_at_call 76; refine hh1.out.mono ?_; rintro e w7 ⟨rfl, ⟨c0, c1, cf⟩, k7⟩)
         go_quiet (first | (go_at_call 42; exact he.out _ k7.out _))
         go_wp2
         go_quiet (fail)
         go_upto_region 21 with (go_at_call 128; refine (hd.out _ (k7.out.drewN _)).mono ?_; rintro e w9 ⟨x, ok, rfl, ⟨r0, r1, r2, rf⟩, k9, hadd⟩)
         cases ok with
         | false =>
          have k9' := (k9.out.resolve_right (fun h => by cases h.1)).2
          have re := hre.out _ (hff.out _ k9')
          replace k9' := zz k9'
          go_wp2
          refine bodyPost_ret (by rw [results_cell_tmp rfl]; go_simp; try rfl) rfl ?_
          exact hFail.out _ _ _ _ k9'.out
         | true =>
          replace hadd := hadd.out rfl
          go_wp2
          obtain ⟨⟨els', rs', rest', x1, x2, x3, x4, x5⟩⟩ := (k9.out.resolve_left (fun h => by cases h.1)).2
          go_roundg rest'.length
          case measure => exact x3
          case rel => exact ⟨els', rs', rest', congrArg Value.string x1, x2, rfl, x4, x5⟩
        ·rw [hc32] at hws
         replace hws := zz hws
         clear hd
         go_wp2_with (go_at_call 76; refine hh1.out.mono ?_; rintro e w7 ⟨rfl, ⟨c0, c1, cf⟩, k7⟩)
         go_quiet (first | (go_at_call 42; exact he.out _ k7.out _))
         go_wp2
         go_quiet (fail)
         go_wp2_with (first
          | (go_at_call 82; refine (hf.out _ _ (by decide) k8.out).mono ?_; rintro e w9 ⟨rfl, ⟨r0, r1, r2, rf⟩, k9⟩)
          | (go_at_call 28; refine (hws.out _ (k7.out.drewN _)).mono ?_; rintro e w8 ⟨rfl, k8⟩))
         have re := hre.out _ (hff.out _ k9.out)
         refine bodyPost_ret (by rw [results_cell_tmp rfl]; go_simp; try rfl) rfl ?_
         exact hFail.out _ _ _ _ k9.out
        ·rw [hc32] at hws
         have hd := hd (.inl hc32)
         replace hd := zz hd
         replace hws := zz hws
         go_wp2_with (go_at_call 76; refine hh1.out.mono ?_; rintro e w7 ⟨rfl, ⟨c0, c1, cf⟩, k7⟩)
         go_quiet (first | (go_at_call 42; exact he.out _ k7.out _))
         go_wp2
         go_quiet (fail)
         go_upto_region 21 with (first
          | (go_at_call 128; refine (hd.out _ k8.out).mono ?_; rintro e w9 ⟨x, ok, rfl, ⟨r0, r1, r2, rf⟩, k9, hadd⟩)
          | (go_at_call 28; refine (hws.out _ (k7.out.drewN _)).mono ?_; rintro e w8 ⟨rfl, k8⟩))
         cases ok with
         | false =>
          have k9' := (k9.out.resolve_right (fun h => by cases h.1)).2
          have re := hre.out _ (hff.out _ k9')
          replace k9' := zz k9'
          go_wp2
          refine bodyPost_ret (by rw [results_cell_tmp rfl]; go_simp; try rfl) rfl ?_
          exact hFail.out _ _ _ _ k9'.out
         | true =>
          replace hadd := hadd.out rfl
          go_wp2
          obtain ⟨⟨els', rs', rest', x1, x2, x3, x4, x5⟩⟩ := (k9.out.resolve_left (fun h => by cases h.1)).2
          go_roundg rest'.length
          case measure => exact x3
          case rel => exact ⟨els', rs', rest', congrArg Value.string x1, x2, rfl, x4, x5⟩
   ·have hh1 := k6.hasN hz h5 [34] (by rw [hg3]; exact take_ne hno1) (by decide)
    replace hh1 := zz hh1
    rcases lit_or [39] rest2 with ⟨r2, rfl⟩ | hno2
    ·have hh : ∀ w1, SP P s q vd W0 a4 w1 -> Calls Tryz.prog 76 #[.pointer (some ⟨P, 0, none⟩), .string ⟨#[39]⟩] w1 fun e w' => e = .returned (.bool true) /\ SPc P s (a4 + 1) w' /\ Hid (SP P s q vd W0 (a4 + 1) w') := fun w1 k => k.hasY hz h5 [39] r2 hg3 (by decide)
     have hA := hpre.out false r2 rfl
     replace hh := zz hh
     replace hA := zz hA
     clear hpre k6 hg3 hno1 hf1
     go_wp2_with (first
      | (go_at_call 76; refine (hh.out _ k7.out).mono ?_; rintro e w6 ⟨rfl, _, kq⟩; clear k7)
      | (go_at_call 76; refine hh1.out.mono ?_; rintro e w5 ⟨rfl, _, k7⟩))
     obtain ⟨D, hD⟩ : ∃ D, D = a4 + 1 := ⟨_, rfl⟩
     have hA' : PreA s a D p l false := by rw [hD]; exact hA.out
     have kq' : SP P s q vd W0 D w6 := by rw [hD]; exact kq.out
     replace hA' := zz hA'
     replace kq' := zz kq'
     clear kq hA hD hh hh1
     have hDs := hA'.out.le
     go_loopg [8] (s.size - D) (fun k x8 wr => ∃ els rs rest, x8 = .string (nameB rs) /\ s.data.toList.drop D = srcs els ++ rest /\ rest.length = k /\ TxS (quoL false) false true els rs rest /\ SP P s q vd W0 (D + (srcs els).length) wr)
     case atStart => exact ⟨[], [], s.data.toList.drop D, rfl, rfl, by rw [List.length_drop, <- Lib.size_eq], TxS.nil, kq'.out⟩
     case round =>
      obtain ⟨els, rs, rest, rfl, hL, hk, hT, hB⟩ := hrel
      have hsz := at_le hL hDs
      have hgo := at_go hL
      obtain ⟨A, hA⟩ : ∃ A, A = D + (srcs els).length := ⟨_, rfl⟩
      rw [<- hA] at hB hsz hgo
      have hAs : A <= s.size := by omega
      obtain ⟨X, hX⟩ : ∃ X, X = nameB rs := ⟨_, rfl⟩
      rw [<- hX]
      have hXz : X.size <= 1000000 := by
       have e1 := elsOut_le hT.ok
       rw [hT.out] at e1
       have e2 : X.size = (nb rs).length := by rw [hX, Lib.size_eq]; rfl
       omega
      have hadd : ∀ (x : ByteArray) (w1 : World), x.size <= 4 -> (Op.stringOp .add X x).run Tryz.prog w1 = .ok (.string (X ++ x)) w1 := fun x w1 hx => run_string_add_sum w1 _ _ (by omega)
      replace hadd := zz hadd
      clear hXz kq'
      rcases lit_or [39] rest with ⟨t', rfl⟩ | hno
      ·have hA3 : A + 1 <= s.size := by simp at hsz; omega
       have hh := (hB.hasY hz hAs [39] t' hgo (by decide)).mono (R' := fun e w' => e = .returned (.bool true) /\ (w'.cell? ⟨R, 0, none⟩ = some (.string ⟨#[]⟩) /\ w'.cell? ⟨R, 1, none⟩ = some (.string ⟨#[]⟩) /\ w'.cell? ⟨R, 2, none⟩ = some (.string ⟨#[]⟩) /\ ∀ i, w'.frozen? ⟨R, i, none⟩ = false) /\ Hid (SP P s q vd W0 (A + 1) w')) (fun e w' x => ⟨x.1, hrc.out _ x.2.2.out.2, x.2.2⟩)
       have hfin := hA'.out.fin (dbl := false) hL hT
       have hlt := hA'.out.lt
       rw [<- hA, <- hX] at hfin
       replace hh := zz hh
       replace hfin := zz hfin
       replace hA := zz hA
       clear hX hT hL hsz hgo hk hB hadd hA'
       go_wp2_with (go_at_call 76; refine hh.out.mono ?_; rintro e w7 ⟨rfl, ⟨r0, r1, r2, rf⟩, k7⟩)
       have re := hre.out _ k7.out.2
       refine bodyPost_ret (by rw [results_cell_tmp rfl]; go_simp; try rfl) rfl ?_
       exact ⟨⟨p, l, X, true, rfl, .inr ⟨rfl, A + 1, by have := hA.out; omega, hA3, hSP.out _ _ _ _ _ k7.out, hfin.out⟩⟩⟩
      ·have hh1 := hB.hasN hz hAs [39] (by rw [hgo]; exact take_ne hno) (by decide)
       have hf : ∀ (w1 : World) (v : Int), v ≠ 0 -> SP P s q vd W0 A w1 -> Calls Tryz.prog 82 #[.pointer (some ⟨P, 0, none⟩), .int .i64 v] w1 fun e w' => e = .returned (.bool false) /\ (w'.cell? ⟨R, 0, none⟩ = some (.string ⟨#[]⟩) /\ w'.cell? ⟨R, 1, none⟩ = some (.string ⟨#[]⟩) /\ w'.cell? ⟨R, 2, none⟩ = some (.string ⟨#[]⟩) /\ ∀ i, w'.frozen? ⟨R, i, none⟩ = false) /\ Hid (FailP P s q W0 w') := fun w1 v hv k => (k.fail v hv hAs).mono (fun e w' x => ⟨x.1, hrc.out _ (hff.out _ x.2.out), x.2⟩)
       replace hf := zz hf
       replace hh1 := zz hh1
       rcases rest with _ | ⟨c, t⟩
       ·have he := fun (w1 : World) (k : SP P s q vd W0 A w1) => quietly (fun n => (k.drewN n).endY (by simp at hsz; omega))
        replace he := zz he
        clear hX hT hL hsz hgo hk hB hadd hA' hA hno
        go_wp2_with (go_at_call 76; refine hh1.out.mono ?_; rintro e w7 ⟨rfl, ⟨c0, c1, cf⟩, k7⟩)
        go_quiet (first | (go_at_call 42; exact he.out _ k7.out _))
        go_wp2_with (go_at_call 82; refine (hf.out _ _ (by decide) (k7.out.drewN _)).mono ?_; rintro e w8 ⟨rfl, ⟨r0, r1, r2, rf⟩, k8⟩)
        have re := hre.out _ (hff.out _ k8.out)
        refine bodyPost_ret (by rw [results_cell_tmp rfl]; go_simp; try rfl) rfl ?_
        exact hFail.out _ _ _ _ k8.out
       ·obtain ⟨h1, h2, h3⟩ := at_byte hgo
        have he := fun (w1 : World) (k : SP P s q vd W0 A w1) => quietly (fun n => (k.drewN n).endN h1)
        have i1 : (A : Int) < (s.size : Int) := by omega
        replace he := zz he
        have hws : ∀ w1, SP P s q vd W0 A w1 -> Calls Tryz.prog 28 #[.int .u8 c.toNat] w1 fun e w' => e = .returned (.bool (isWs c)) /\ Hid (SP P s q vd W0 A w') := fun w1 k => (spSpace_do c w1).mono (fun e w' x => ⟨x.1, k.drw x.2⟩)
        obtain ⟨n, hn⟩ : ∃ n, n = c.toNat := ⟨_, rfl⟩
        rw [<- hn] at h2 hws
        by_cases h60 : c = 60
        ·have hn60 : n = 60 := by rw [hn, h60]; rfl
         subst hn60
         replace hn := zz hn
         clear hX hT hL hsz hgo hk hB hadd hA' hA hno hws h3
         go_wp2_with (go_at_call 76; refine hh1.out.mono ?_; rintro e w7 ⟨rfl, ⟨c0, c1, cf⟩, k7⟩)
         go_quiet (first | (go_at_call 42; exact he.out _ k7.out _))
         go_wp2_with (go_at_call 82; refine (hf.out _ _ (by decide) (k7.out.drewN _)).mono ?_; rintro e w8 ⟨rfl, ⟨r0, r1, r2, rf⟩, k8⟩)
         have re := hre.out _ (hff.out _ k8.out)
         refine bodyPost_ret (by rw [results_cell_tmp rfl]; go_simp; try rfl) rfl ?_
         exact hFail.out _ _ _ _ k8.out
        ·have e60 : ((n : Int) == 60) = false := by
          rw [beq_eq_false_iff_ne]; intro e
          apply h60
          exact UInt8.toNat_inj.1 (by rw [<- hn]; show n = 60; omega)
         have hd : (isWs c = false \/ c = 32) -> ∀ (w1 : World), SP P s q vd W0 A w1 -> Calls Tryz.prog 128 #[.pointer (some ⟨P, 0, none⟩)] w1 fun e w' => ∃ (x : ByteArray) (ok : Bool), e = .returned (.tuple #[.string x, .bool ok]) /\ (w'.cell? ⟨R, 0, none⟩ = some (.string ⟨#[]⟩) /\ w'.cell? ⟨R, 1, none⟩ = some (.string ⟨#[]⟩) /\ w'.cell? ⟨R, 2, none⟩ = some (.string ⟨#[]⟩) /\ ∀ i, w'.frozen? ⟨R, i, none⟩ = false) /\ Hid ((ok = false /\ FailP P s q W0 w') \/ (ok = true /\ NxP P s D q vd W0 (quoL false) false gk (X ++ x) w')) /\ Hid (ok = true -> ∀ w1, (Op.stringOp .add X x).run Tryz.prog w1 = .ok (.string (X ++ x)) w1) := fun hcw w1 k => by
          refine (k.data hz h1).mono ?_
          rintro e w' ⟨x, ok, rfl, h4⟩
          by_cases hx : ok = false
          ·have hfl := (h4.out.resolve_right (fun h => by rw [hx] at h; cases h.1)).2
           exact ⟨x, ok, rfl, hrc.out _ (hff.out _ hfl), .inl ⟨hx, hfl⟩, fun h => absurd h (by rw [hx]; decide)⟩
          ·obtain ⟨_, els', r', rest', rfl, hr, hC, hL', hS⟩ := h4.out.resolve_left (fun h => hx h.1)
           have hne : srcs els' ≠ [] := hC.ne
           have hd : (srcs els').head? = some c := by
            rw [hgo] at hL'
            cases hs : srcs els' with
            | nil => exact absurd hs hne
            | cons y z => rw [hs] at hL'; injection hL' with e1 _; rw [<- e1]; rfl
           have h13 : c ≠ 13 := by
            rintro rfl
            rcases hcw with h | h
            ·exact absurd h (by decide)
            ·exact absurd h (by decide)
           have hT' : TxS (quoL false) false true (els ++ els') (rs ++ [r']) rest' := by
            refine hC.go (by rw [<- hL', hgo]; exact hT) hr ?_ ?_ (fun h => by cases h)
            ·intro x hx
             rw [hd]
             simp [quoL] at hx
             rcases hx with rfl | rfl | rfl
             ·exact ⟨by decide, fun _ e => h60 (Option.some.inj e)⟩
             ·exact ⟨by decide, fun e => absurd rfl e⟩
             ·exact ⟨by decide, fun _ e => hno t (by rw [Option.some.inj e]; rfl)⟩
            ·rw [hd]; exact fun e => h13 (Option.some.inj e)
           have e5 : (c :: t).length = (srcs els').length + rest'.length := by rw [<- hgo, hL', List.length_append]
           have e6 := List.length_pos_iff.2 hne
           refine ⟨_, ok, rfl, hrc.out _ hS.2, .inr ⟨by simpa using hx, ⟨⟨els ++ els', rs ++ [r'], rest', by rw [hX, nameB_snoc], ?_, by omega, hT', ?_⟩⟩⟩, fun _ w1 => hadd.out _ w1 (u8_len r').2⟩
           ·rw [hL, srcs_app, List.append_assoc, <- hgo, hL']
           ·have : D + (srcs (els ++ els')).length = A + (srcs els').length := by rw [hA, srcs_app, List.length_append]; omega
            rw [this]; exact hS
         have hcs : (n = 32 /\ c = 32) \/ ((((n : Int) != 32) = true /\ ((n : Int) == 32) = false /\ ¬ n = 32) /\ isWs c = true) \/ ((((n : Int) != 32) = true /\ ((n : Int) == 32) = false /\ ¬ n = 32) /\ isWs c = false) := by
          by_cases h32 : c = 32
          ·have : n = 32 := by rw [hn, h32]; rfl
           exact .inl ⟨this, h32⟩
          ·have e0 : ¬ n = 32 := fun e => h32 (UInt8.toNat_inj.1 (by rw [<- hn]; exact e))
           have e32 : ((n : Int) != 32) = true /\ ((n : Int) == 32) = false /\ ¬ n = 32 := ⟨by rw [bne_iff_ne]; omega, by rw [beq_eq_false_iff_ne]; omega, e0⟩
           cases hw : isWs c
           ·exact .inr (.inr ⟨e32, rfl⟩)
           ·exact .inr (.inl ⟨e32, rfl⟩)
         replace hn := zz hn
         clear hX hT hL hsz hgo hk hB hadd hA' hA hno h3 h1
         rcases hcs with ⟨rfl, hc32⟩ | ⟨⟨e32, e33, e34⟩, hc32⟩ | ⟨⟨e32, e33, e34⟩, hc32⟩
         ·have hd := hd (.inr hc32)
          replace hd := zz hd
          replace hc32 := zz hc32
          go_wp2_with (go_at_call 76; refine hh1.out.mono ?_; rintro e w7 ⟨rfl, ⟨c0, c1, cf⟩, k7⟩)
          go_quiet (first | (go_at_call 42; exact he.out _ k7.out _))
          go_wp2
          go_quiet (fail)
          go_upto_region 21 with (go_at_call 128; refine (hd.out _ (k7.out.drewN _)).mono ?_; rintro e w9 ⟨x, ok, rfl, ⟨r0, r1, r2, rf⟩, k9, hadd⟩)
          cases ok with
          | false =>
           have k9' := (k9.out.resolve_right (fun h => by cases h.1)).2
           have re := hre.out _ (hff.out _ k9')
           replace k9' := zz k9'
           go_wp2
           refine bodyPost_ret (by rw [results_cell_tmp rfl]; go_simp; try rfl) rfl ?_
           exact hFail.out _ _ _ _ k9'.out
          | true =>
           replace hadd := hadd.out rfl
           go_wp2
           obtain ⟨⟨els', rs', rest', x1, x2, x3, x4, x5⟩⟩ := (k9.out.resolve_left (fun h => by cases h.1)).2
           go_roundg rest'.length
           case measure => exact x3
           case rel => exact ⟨els', rs', rest', congrArg Value.string x1, x2, rfl, x4, x5⟩
         ·rw [hc32] at hws
          replace hws := zz hws
          clear hd
          go_wp2_with (go_at_call 76; refine hh1.out.mono ?_; rintro e w7 ⟨rfl, ⟨c0, c1, cf⟩, k7⟩)
          go_quiet (first | (go_at_call 42; exact he.out _ k7.out _))
          go_wp2
          go_quiet (fail)
          go_wp2_with (first
           | (go_at_call 82; refine (hf.out _ _ (by decide) k8.out).mono ?_; rintro e w9 ⟨rfl, ⟨r0, r1, r2, rf⟩, k9⟩)
           | (go_at_call 28; refine (hws.out _ (k7.out.drewN _)).mono ?_; rintro e w8 ⟨rfl, k8⟩))
          have re := hre.out _ (hff.out _ k9.out)
          refine bodyPost_ret (by rw [results_cell_tmp rfl]; go_simp; try rfl) rfl ?_
          exact hFail.out _ _ _ _ k9.out
         ·rw [hc32] at hws
          have hd := hd (.inl hc32)
          replace hd := zz hd
          replace hws := zz hws
          go_wp2_with (go_at_call 76; refine hh1.out.mono ?_; rintro e w7 ⟨rfl, ⟨c0, c1, cf⟩, k7⟩)
          go_quiet (first | (go_at_call 42; exact he.out _ k7.out _))
          go_wp2
          go_quiet (fail)
          go_upto_region 21 with (first
           | (go_at_call 128; refine (hd.out _ k8.out).mono ?_; rintro e w9 ⟨x, ok, rfl, ⟨r0, r1, r2, rf⟩, k9, hadd⟩)
           | (go_at_call 28; refine (hws.out _ (k7.out.drewN _)).mono ?_; rintro e w8 ⟨rfl, k8⟩))
          cases ok with
          | false =>
           have k9' := (k9.out.resolve_right (fun h => by cases h.1)).2
           have re := hre.out _ (hff.out _ k9')
           replace k9' := zz k9'
           go_wp2
           refine bodyPost_ret (by rw [results_cell_tmp rfl]; go_simp; try rfl) rfl ?_
           exact hFail.out _ _ _ _ k9'.out
          | true =>
           replace hadd := hadd.out rfl
           go_wp2
           obtain ⟨⟨els', rs', rest', x1, x2, x3, x4, x5⟩⟩ := (k9.out.resolve_left (fun h => by cases h.1)).2
           go_roundg rest'.length
           case measure => exact x3
           case rel => exact ⟨els', rs', rest', congrArg Value.string x1, x2, rfl, x4, x5⟩
    ·have hh2 : ∀ w1, SP P s q vd W0 a4 w1 -> Calls Tryz.prog 76 #[.pointer (some ⟨P, 0, none⟩), .string ⟨#[39]⟩] w1 fun e w' => e = .returned (.bool false) /\ SPc P s a4 w' /\ Hid (SP P s q vd W0 a4 w') := fun w1 k => k.hasN hz h5 [39] (by rw [hg3]; exact take_ne hno2) (by decide)
     have hf := fun (w1 : World) (k : SP P s q vd W0 a4 w1) => (k.fail 1 (by decide) h5).mono (R' := fun e w' => e = .returned (.bool false) /\ (w'.cell? ⟨R, 0, none⟩ = some (.string ⟨#[]⟩) /\ w'.cell? ⟨R, 1, none⟩ = some (.string ⟨#[]⟩) /\ w'.cell? ⟨R, 2, none⟩ = some (.string ⟨#[]⟩) /\ ∀ i, w'.frozen? ⟨R, i, none⟩ = false) /\ Hid (FailP P s q W0 w')) (fun e w' x => ⟨x.1, hrc.out _ (hff.out _ x.2.out), x.2⟩)
     replace hh2 := zz hh2
     replace hf := zz hf
     clear hpre k6 hg3 hno1 hno2 hf1
     go_wp2_with (first
      | (go_at_call 82; refine (hf.out _ k8.out).mono ?_; rintro e w7 ⟨rfl, ⟨r0, r1, r2, rf⟩, k9⟩)
      | (go_at_call 76; refine (hh2.out _ k7.out).mono ?_; rintro e w6 ⟨rfl, _, k8⟩; clear k7)
      | (go_at_call 76; refine hh1.out.mono ?_; rintro e w5 ⟨rfl, _, k7⟩))
     have re := hre.out _ (hff.out _ k9.out)
     refine bodyPost_ret (by rw [results_cell_tmp rfl]; go_simp; try rfl) rfl ?_
     exact hFail.out _ _ _ _ k9.out
  ·have hh := k3.hasN hz h3 [61] (by rw [hg1]; exact take_ne hno) (by decide)
   have hf := fun (w1 : World) (k : SP P s q vd W0 a2 w1) => (k.fail 1 (by decide) h3).mono (R' := fun e w' => e = .returned (.bool false) /\ (w'.cell? ⟨R, 0, none⟩ = some (.string ⟨#[]⟩) /\ w'.cell? ⟨R, 1, none⟩ = some (.string ⟨#[]⟩) /\ w'.cell? ⟨R, 2, none⟩ = some (.string ⟨#[]⟩) /\ ∀ i, w'.frozen? ⟨R, i, none⟩ = false) /\ Hid (FailP P s q W0 w')) (fun e w' x => ⟨x.1, hrc.out _ (hff.out _ x.2.out), x.2⟩)
   replace hh := zz hh
   replace hf := zz hf
   clear k3 hg1 hs1 hno hL1 ha2
   go_wp2_with (first
    | (go_at_call 82; refine (hf.out _ k4.out).mono ?_; rintro e w4 ⟨rfl, ⟨r0, r1, r2, rf⟩, k5⟩)
    | (go_at_call 76; refine hh.out.mono ?_; rintro e w3 ⟨rfl, _, k4⟩))
   have re := hre.out _ (hff.out _ k5.out)
   refine bodyPost_ret (by rw [results_cell_tmp rfl]; go_simp; try rfl) rfl ?_
   exact hFail.out _ _ _ _ k5.out
end Go.Proofs.YtepbbahdhhjibaaGreatDoor
