/- own text -/
import Derived.Test.YtepbbahdhhjibaaGreatDoorC24
namespace Go.Proofs.YtepbbahdhhjibaaGreatDoor
set_option linter.unusedSimpArgs false
set_option linter.unusedVariables false
set_option maxHeartbeats 4000000
set_option maxRecDepth 100000
open Go.RowKit
theorem method_pwrite (a : Addr) (w : World) : (method 453 124 (.pointer (some a)) "Write").run Tryz.prog w = .ok (57, .pointer (some a)) w := by kernel_rfl
theorem nil_pwrite (a : Addr) (w : World) : (nilAhead 453 124 (.pointer (some a)) "Write").run Tryz.prog w = .ok (some false) w := by kernel_rfl
theorem Px.own_no {X : Px} {w w' : World} {v v' : Pv} (hS : PSt X w v w' v') {g : Nat} (hg : ¬ X.own v g) (hgw : g < w.heap.size) : ¬ X.E.own v'.va g := fun h => (hS.nw g (.inr (.inl h))).elim hg (fun h => by omega)
theorem pesctext (X : Px) (v : Pv) (out : List UInt8) (tags : List ByteArray) (rs : List Nat) (w : World) (hrs : ∀ r ∈ rs, isCh r = true) (g o cap : Nat) (hcap : (nb rs).length <= cap) (hL0 : Lies w g o (nb rs)) (hg : ¬ X.own v g) (hgw : g < w.heap.size) (hlen : (nb rs).length <= 1000000000) (hU : UT w) (h5 : ∀ x, X.own v x -> 5 <= x) (h5w : 5 <= w.heap.size)
  (h : Pr X w v false out tags) (hl : out.length + 6 * (nb rs).length + 10 <= 1099511627776) :
  Calls Tryz.prog 53 #[.iface 124 (.pointer (some ⟨X.P, 0, none⟩)), .slice (some ⟨g, o, none⟩) (nb rs).length cap, .bool false] w fun e w' => e = .returned .nilIface /\ Prints X w v out tags (escL false rs) w' := by
 have hlies : ∀ (wr : World) (v' : Pv), PSt X w v wr v' -> Lies wr g o (nb rs) := fun wr v' hS => hL0.keep hS.fr hg
 have hna := fun w => nil_pwrite ⟨X.P, 0, none⟩ w
 have hmt := fun w => method_pwrite ⟨X.P, 0, none⟩ w
 replace h := zz h
 obtain ⟨N, hN⟩ : ∃ N, N = (nb rs).length := ⟨_, rfl⟩
 rw [<- hN] at hcap hlen hl ⊢
 replace hN := zz hN
 replace hlies := zz hlies
 clear hL0
 go_enter Tryz.func53, Tryz.ntmps53
 go_wp2
 go_loopg [7, 8, 9] rs.length (fun m u4 u5 u6 wr => ∃ (a1 a2 b : List Nat) (es : ByteArray) (va1 : Value) (L I : Nat), u4 = .string es /\ u5 = .int .i64 L /\ u6 = .int .i64 I /\ L = (nb a1).length /\ I = (nb (a1 ++ a2)).length /\ a1 ++ a2 ++ b = rs /\ escL false a2 = nb a2 /\ m = b.length /\ PSt X w v wr ⟨va1, v.pv, v.tv⟩ /\ Pr X wr ⟨va1, v.pv, v.tv⟩ false (out ++ escL false a1) tags)
 case atStart => exact ⟨[], [], rs, _, v.va, 0, 0, rfl, rfl, rfl, rfl, rfl, rfl, rfl, rfl, PSt.refl X w v, by simp [escL]; exact h.out⟩
 case round =>
  obtain ⟨a1, a2, b, es, va1, L, I, rfl, rfl, rfl, hL, hI, hab, hpl, rfl, hS, hP⟩ := hrel
  clear h
  have hlw := hlies.out _ _ hS
  have hgX := Px.own_no hS hg hgw
  have hgr : g < wr.heap.size := Nat.lt_of_lt_of_le hgw hS.fr.size
  cases b with
  | nil =>
   rw [List.append_nil] at hab
   have hIN : I = N := by rw [hI, hN.out, hab]
   have hLN' : L <= N := by rw [<- hIN, hL, hI, nb_append, List.length_append]; omega
   have hLN : (L : Int) <= (N : Int) := by omega
   have hLc : (L : Int) <= (cap : Int) := by omega
   have hNc : (N : Int) <= (cap : Int) := by omega
   have hL0 : (0 : Int) <= (L : Int) := by omega
   have hp : ∀ o' cap', ((o' = o + L \/ L = N) /\ N - L <= cap') -> Calls Tryz.prog 57 #[.pointer (some ⟨X.P, 0, none⟩), .slice (some ⟨g, o', none⟩) (N - L) cap'] wr.drew fun e w2 => ∃ q2, e = .returned (.tuple #[q2, .nilIface]) /\ Hid (Prints X w v out tags (escL false rs) w2) := fun o' cap' ho => by
    have e2 : (nb a1).length + (nb a2).length = N := by rw [hN.out, <- hab, nb_append, List.length_append]
    have hl2 : Lies wr g o' (nb a2) := by
     rcases ho.1 with rfl | e
     ·have := hlw
      rw [<- hab, nb_append] at this
      rw [hL]
      exact this.drop
     ·have : nb a2 = [] := List.length_eq_zero_iff.1 (by omega)
      rw [this]; intro j c hj; simp at hj
    refine (pwrite X ⟨va1, v.pv, v.tv⟩ _ tags wr.drew hP.drew (nb a2) g o' (N - L) cap' (by omega) ho.2 (hl2.old (Fr.refl _ wr).drew) hgX hgr ?_).mono ?_
    ·rw [List.length_append]
     have := escL_len false a1
     have := nb_len_ge a1
     omega
    ·rintro e w2 ⟨rfl, va2, k1, k2⟩
     refine ⟨_, rfl, va2, hS.drew.trans k1, ?_⟩
     rw [List.append_assoc, <- hpl, <- escL_app, hab] at k2
     exact k2
   have hns : N = N := rfl
   by_cases hcL : L = cap
   ·have hp' := hp o 0 ⟨Or.inr (by omega), by omega⟩
    have hLN2 : L = N := by omega
    rw [hLN2, Nat.sub_self] at hp'
    have hcN : cap = N := by omega
    subst hLN2
    subst hcN
    replace hp' := zz hp'
    subst hIN
    clear hL hI hpl hab hS hP hp hlw hcL
    go_wp2
    go_region_held3 (fun _ => True) (trivial) (first | (go_at_call 57; refine hp'.out.mono ?_; rintro e w2 ⟨q2, rfl, k2⟩))
    all_goals go_wp2
    go_ret
    exact ⟨rfl, k2.out⟩
   ·have hp' := hp (o + L) (cap - L) ⟨Or.inl rfl, by omega⟩
    replace hp' := zz hp'
    have hcL2 : ¬ (cap = L) := by omega
    subst hIN
    clear hL hI hpl hab hS hP hp hlw hcL
    go_wp2
    go_region_held3 (fun _ => True) (trivial) (first | (go_at_call 57; refine hp'.out.mono ?_; rintro e w2 ⟨q2, rfl, k2⟩))
    all_goals go_wp2
    go_ret
    exact ⟨rfl, k2.out⟩
  | cons r b =>
   obtain ⟨K, hK⟩ : ∃ K, K = (cb r).length := ⟨_, rfl⟩
   obtain ⟨I2, hI2⟩ : ∃ I2, I2 = I + K := ⟨_, rfl⟩
   have hK1 : 1 <= K /\ K <= 4 := by rw [hK]; exact u8_len r
   have hnl : N = I + K + (nb b).length := by rw [hN.out, <- hab, nb_append, nb_cons, List.length_append, List.length_append, <- hI, <- hK]; omega
   have hch := hrs r (by rw [<- hab]; simp)
   have hLI : L <= I := by rw [hL, hI, nb_append, List.length_append]; omega
   have i1 : (I : Int) < (N : Int) := by omega
   have i2 : (I : Int) <= (N : Int) := by omega
   have i3 : (L : Int) <= (I : Int) := by omega
   have i4 : (0 : Int) <= (I : Int) := by omega
   have i5 : (0 : Int) <= (L : Int) := by omega
   have i6 : IntKind.i64.wrap ((I : Int) + (K : Int)) = (I2 : Int) := by rw [IntWalk.i64_in _ (by omega)]; omega
   have i11 : IntKind.i64.wrap (I : Int) = (I : Int) := IntWalk.i64_in _ (by omega)
   have i8 : (I : Int) <= (cap : Int) := by omega
   have i9 : (N : Int) <= (cap : Int) := by omega
   have n1 : ¬ (cap = I) := by omega
   have n2 : ¬ (cap = L) := by omega
   have hdec : Calls Tryz.prog 100 #[.slice (some ⟨g, o + I, none⟩) (N - I) (cap - I)] wr fun e w' => e = .returned (.tuple #[.int .i32 r, .int .i64 K]) /\ Hid (Old wr w') := by
    have hU' : UT wr := hU.fr hS.fr (fun h => absurd (h5 _ h) (by omega)) (fun h => absurd (h5 _ h) (by omega))
    have hl2 : Lies wr g (o + I) (cb r ++ nb b) := by
     have := hlw
     rw [<- hab, nb_append, nb_cons] at this
     rw [hI]
     exact this.drop
    have e1 : (ByteArray.mk (cb r ++ nb b).toArray).size = N - I := by
     rw [Lib.size_eq, List.length_append, <- hK]; omega
    have hbs : ∀ j, j < (ByteArray.mk (cb r ++ nb b).toArray).size -> wr.cell? ⟨g, (o + I) + j, none⟩ = some (.int .u8 ((ByteArray.mk (cb r ++ nb b).toArray).get! j).toNat) := by
     intro j hj
     rw [Lib.size_eq] at hj
     refine hl2 j _ ?_
     rw [List.getElem?_eq_getElem hj]
     congr 1
     show _ = (cb r ++ nb b).toArray[j]!
     simp at hj
     simp [hj]
    have := Tryz.utf8_DecodeRune (ByteArray.mk (cb r ++ nb b).toArray) g (o + I) (cap - I) wr hU' hbs
    rw [decodeGo_u8 r (isCh_ok hch) (nb b) _ rfl, e1] at this
    refine this.mono ?_
    rintro e w' ⟨rfl, k⟩
    rw [hK]
    exact ⟨rfl, Below.toOld k⟩
   have hbd : (out ++ escL false a1).length + (nb a2).length + 5 <= 1099511627776 := by
    have e2 : (nb a1).length + (nb a2).length = I := by rw [hI, nb_append, List.length_append]
    rw [List.length_append]
    have := escL_len false a1
    have := nb_len_ge a1
    omega
   have hp1 : ∀ w1, Old wr w1 -> Calls Tryz.prog 57 #[.pointer (some ⟨X.P, 0, none⟩), .slice (some ⟨g, o + L, none⟩) (I - L) (cap - L)] w1 fun e w2 => ∃ q2, e = .returned (.tuple #[q2, .nilIface]) /\ Hid (∃ va2, PSt X w v w2 ⟨va2, v.pv, v.tv⟩ /\ Pr X w2 ⟨va2, v.pv, v.tv⟩ false (out ++ escL false a1 ++ nb a2) tags) := fun w1 ho => by
    have hl2 : Lies w1 g (o + L) (nb a2) := by
     have := hlw.old ho
     rw [<- hab, nb_append, nb_append, List.append_assoc] at this
     rw [hL]
     intro j c hj
     exact this.drop j c (by rw [List.getElem?_append_left ((List.getElem?_eq_some_iff.1 hj).1)]; exact hj)
    have e2 : (nb a1).length + (nb a2).length = I := by rw [hI, nb_append, List.length_append]
    refine (pwrite X ⟨va1, v.pv, v.tv⟩ _ tags w1 (hP.old ho) (nb a2) g (o + L) (I - L) (cap - L) (by omega) (by omega) hl2 hgX (Nat.lt_of_lt_of_le hgr ho.size) ?_).mono ?_
    ·omega
    ·rintro e w2 ⟨rfl, va2, k1, k2⟩
     exact ⟨_, rfl, va2, (hS.old ho).trans k1, k2⟩
   replace hdec := zz hdec
   replace hp1 := zz hp1
   replace hbd := zz hbd
   replace hL := zz hL
   replace hI := zz hI
   have hI2 := zz (And.intro hI2 hK)
   replace hab := zz hab
   replace hpl := zz hpl
   replace hS := zz hS
   replace hP := zz hP
   clear hnl hLI hK hlw hgr
   by_cases h34 : r = 34
   ·subst h34
    obtain ⟨CAP, hCAP⟩ : ∃ CAP : World -> Nat, CAP = fun w => grownCap w 5 0 5 := ⟨_, rfl⟩
    obtain ⟨BW, hBW⟩ : ∃ BW : World -> World, BW = fun w => Lib.bytesWorld w 5 ⟨#[38, 35, 51, 52, 59]⟩ := ⟨_, rfl⟩
    have hcv : ∀ w2, (convert 9 56 (.string ⟨#[38, 35, 51, 52, 59]⟩)).run Tryz.prog w2 = .ok (.slice (some ⟨w2.heap.size, 0, none⟩) 5 (CAP w2)) (BW w2) := fun w2 => by
     rw [hCAP, hBW]
     exact Lib.run_convert_string_bytes (P := Tryz.prog) w2 9 56 5 ⟨#[38, 35, 51, 52, 59]⟩ Tryz.underlying9 Tryz.underlying56 Tryz.underlying5
    have hp2 : ∀ w2 va2, PSt X w v w2 ⟨va2, v.pv, v.tv⟩ /\ Pr X w2 ⟨va2, v.pv, v.tv⟩ false (out ++ escL false a1 ++ nb a2) tags -> Calls Tryz.prog 57 #[.pointer (some ⟨X.P, 0, none⟩), .slice (some ⟨w2.heap.size, 0, none⟩) 5 (CAP w2)] (BW w2) fun e w3 => ∃ q3, e = .returned (.tuple #[q3, .nilIface]) /\ Hid (∃ va3, PSt X w v w3 ⟨va3, v.pv, v.tv⟩ /\ Pr X w3 ⟨va3, v.pv, v.tv⟩ false (out ++ escL false (a1 ++ a2 ++ [34])) tags) := fun w2 va2 hx => by
     have hold : Old w2 (BW w2) := by rw [hBW]; exact bytesWorld_old w2 ⟨#[38, 35, 51, 52, 59]⟩
     have hll : Lies (BW w2) w2.heap.size 0 [38, 35, 51, 52, 59] := by rw [hBW]; exact bytesWorld_lies w2 [38, 35, 51, 52, 59]
     refine (pwrite X ⟨va2, v.pv, v.tv⟩ _ tags (BW w2) (hx.2.old hold) [38, 35, 51, 52, 59] w2.heap.size 0 5 (CAP w2) rfl ?_ hll ?_ ?_ (by rw [List.length_append]; have := hbd.out; omega)).mono ?_
     ·rw [hCAP]; exact grownCap_ge _ _ _ _
     ·intro hh; exact absurd (hx.2.lt _ (.inr (.inl hh))) (Nat.lt_irrefl _)
     ·have := (World.block_lt_of_cell? (BW w2) ⟨w2.heap.size, 0, none⟩ (hll 0 _ rfl)); exact this
     ·rintro e w3 ⟨rfl, va3, k1, k2⟩
      refine ⟨_, rfl, va3, (hx.1.old hold).trans k1, ?_⟩
      have e1 : escL false (a1 ++ a2 ++ [34]) = escL false a1 ++ nb a2 ++ [38, 35, 51, 52, 59] := by rw [escL_app, escL_app, hpl.out]; rfl
      rw [e1, <- List.append_assoc, <- List.append_assoc]
      exact k2
    replace hp2 := zz hp2
    replace hCAP := zz hCAP
    replace hBW := zz hBW
    go_wp2_with (first | (go_at_call 100; refine hdec.out.mono ?_; rintro e w1 ⟨rfl, o1⟩))
    refine wp_region_tail 10 [] [0, 1, 2, 3, 4, 5, 6, 7, 8, 9] (by kernel_rfl) (by kernel_rfl) (fun _ _ _ _ _ h => h) ?_
    simp only [List.filterMap_cons, List.filterMap_nil, List.getElem?_toArray, List.getElem?_cons_zero, List.getElem?_cons_succ, List.nil_append, List.cons_append, List.drop_succ_cons, List.drop_zero]
    repeat still_step
    refine wpStill_nil ?_
    go_wp2_with (first | (go_at_call 57; refine (hp1.out _ o1.out.drew).mono ?_; rintro e w2 ⟨q2, rfl, k2⟩; obtain ⟨va2, k2⟩ := k2.out; replace k2 := zz k2; clear hp1) | (go_at_call 57; refine (hp2.out _ va2 k2.out).mono ?_; rintro e w3 ⟨q3, rfl, k3⟩))
    go_roundg b.length
    case measure => exact Nat.lt_succ_self _
    case rel =>
     obtain ⟨va3, k4, k5⟩ := k3.out
     exact ⟨a1 ++ a2 ++ [34], [], b, _, va3, I2, I2, rfl, congrArg (Value.int .i64) (by have := hI2.out.1; omega), congrArg (Value.int .i64) (by have := hI2.out.1; omega), by rw [nb_snoc, <- hI.out, <- hI2.out.2]; exact hI2.out.1, by rw [List.append_nil, nb_snoc, <- hI.out, <- hI2.out.2]; exact hI2.out.1, by rw [<- hab.out]; simp, rfl, rfl, k4, k5⟩
   ·
    by_cases h39 : r = 39
    ·subst h39
     obtain ⟨CAP, hCAP⟩ : ∃ CAP : World -> Nat, CAP = fun w => grownCap w 5 0 5 := ⟨_, rfl⟩
     obtain ⟨BW, hBW⟩ : ∃ BW : World -> World, BW = fun w => Lib.bytesWorld w 5 ⟨#[38, 35, 51, 57, 59]⟩ := ⟨_, rfl⟩
     have hcv : ∀ w2, (convert 9 56 (.string ⟨#[38, 35, 51, 57, 59]⟩)).run Tryz.prog w2 = .ok (.slice (some ⟨w2.heap.size, 0, none⟩) 5 (CAP w2)) (BW w2) := fun w2 => by
      rw [hCAP, hBW]
      exact Lib.run_convert_string_bytes (P := Tryz.prog) w2 9 56 5 ⟨#[38, 35, 51, 57, 59]⟩ Tryz.underlying9 Tryz.underlying56 Tryz.underlying5
     have hp2 : ∀ w2 va2, PSt X w v w2 ⟨va2, v.pv, v.tv⟩ /\ Pr X w2 ⟨va2, v.pv, v.tv⟩ false (out ++ escL false a1 ++ nb a2) tags -> Calls Tryz.prog 57 #[.pointer (some ⟨X.P, 0, none⟩), .slice (some ⟨w2.heap.size, 0, none⟩) 5 (CAP w2)] (BW w2) fun e w3 => ∃ q3, e = .returned (.tuple #[q3, .nilIface]) /\ Hid (∃ va3, PSt X w v w3 ⟨va3, v.pv, v.tv⟩ /\ Pr X w3 ⟨va3, v.pv, v.tv⟩ false (out ++ escL false (a1 ++ a2 ++ [39])) tags) := fun w2 va2 hx => by
      have hold : Old w2 (BW w2) := by rw [hBW]; exact bytesWorld_old w2 ⟨#[38, 35, 51, 57, 59]⟩
      have hll : Lies (BW w2) w2.heap.size 0 [38, 35, 51, 57, 59] := by rw [hBW]; exact bytesWorld_lies w2 [38, 35, 51, 57, 59]
      refine (pwrite X ⟨va2, v.pv, v.tv⟩ _ tags (BW w2) (hx.2.old hold) [38, 35, 51, 57, 59] w2.heap.size 0 5 (CAP w2) rfl ?_ hll ?_ ?_ (by rw [List.length_append]; have := hbd.out; omega)).mono ?_
      ·rw [hCAP]; exact grownCap_ge _ _ _ _
      ·intro hh; exact absurd (hx.2.lt _ (.inr (.inl hh))) (Nat.lt_irrefl _)
      ·have := (World.block_lt_of_cell? (BW w2) ⟨w2.heap.size, 0, none⟩ (hll 0 _ rfl)); exact this
      ·rintro e w3 ⟨rfl, va3, k1, k2⟩
       refine ⟨_, rfl, va3, (hx.1.old hold).trans k1, ?_⟩
       have e1 : escL false (a1 ++ a2 ++ [39]) = escL false a1 ++ nb a2 ++ [38, 35, 51, 57, 59] := by rw [escL_app, escL_app, hpl.out]; rfl
       rw [e1, <- List.append_assoc, <- List.append_assoc]
       exact k2
     replace hp2 := zz hp2
     replace hCAP := zz hCAP
     replace hBW := zz hBW
     go_wp2_with (first | (go_at_call 100; refine hdec.out.mono ?_; rintro e w1 ⟨rfl, o1⟩))
     refine wp_region_tail 10 [] [0, 1, 2, 3, 4, 5, 6, 7, 8, 9] (by kernel_rfl) (by kernel_rfl) (fun _ _ _ _ _ h => h) ?_
     simp only [List.filterMap_cons, List.filterMap_nil, List.getElem?_toArray, List.getElem?_cons_zero, List.getElem?_cons_succ, List.nil_append, List.cons_append, List.drop_succ_cons, List.drop_zero]
     repeat still_step
     refine wpStill_nil ?_
     go_wp2_with (first | (go_at_call 57; refine (hp1.out _ o1.out.drew).mono ?_; rintro e w2 ⟨q2, rfl, k2⟩; obtain ⟨va2, k2⟩ := k2.out; replace k2 := zz k2; clear hp1) | (go_at_call 57; refine (hp2.out _ va2 k2.out).mono ?_; rintro e w3 ⟨q3, rfl, k3⟩))
     go_roundg b.length
     case measure => exact Nat.lt_succ_self _
     case rel =>
      obtain ⟨va3, k4, k5⟩ := k3.out
      exact ⟨a1 ++ a2 ++ [39], [], b, _, va3, I2, I2, rfl, congrArg (Value.int .i64) (by have := hI2.out.1; omega), congrArg (Value.int .i64) (by have := hI2.out.1; omega), by rw [nb_snoc, <- hI.out, <- hI2.out.2]; exact hI2.out.1, by rw [List.append_nil, nb_snoc, <- hI.out, <- hI2.out.2]; exact hI2.out.1, by rw [<- hab.out]; simp, rfl, rfl, k4, k5⟩
    ·
     by_cases h38 : r = 38
     ·subst h38
      obtain ⟨CAP, hCAP⟩ : ∃ CAP : World -> Nat, CAP = fun w => grownCap w 5 0 5 := ⟨_, rfl⟩
      obtain ⟨BW, hBW⟩ : ∃ BW : World -> World, BW = fun w => Lib.bytesWorld w 5 ⟨#[38, 97, 109, 112, 59]⟩ := ⟨_, rfl⟩
      have hcv : ∀ w2, (convert 9 56 (.string ⟨#[38, 97, 109, 112, 59]⟩)).run Tryz.prog w2 = .ok (.slice (some ⟨w2.heap.size, 0, none⟩) 5 (CAP w2)) (BW w2) := fun w2 => by
       rw [hCAP, hBW]
       exact Lib.run_convert_string_bytes (P := Tryz.prog) w2 9 56 5 ⟨#[38, 97, 109, 112, 59]⟩ Tryz.underlying9 Tryz.underlying56 Tryz.underlying5
      have hp2 : ∀ w2 va2, PSt X w v w2 ⟨va2, v.pv, v.tv⟩ /\ Pr X w2 ⟨va2, v.pv, v.tv⟩ false (out ++ escL false a1 ++ nb a2) tags -> Calls Tryz.prog 57 #[.pointer (some ⟨X.P, 0, none⟩), .slice (some ⟨w2.heap.size, 0, none⟩) 5 (CAP w2)] (BW w2) fun e w3 => ∃ q3, e = .returned (.tuple #[q3, .nilIface]) /\ Hid (∃ va3, PSt X w v w3 ⟨va3, v.pv, v.tv⟩ /\ Pr X w3 ⟨va3, v.pv, v.tv⟩ false (out ++ escL false (a1 ++ a2 ++ [38])) tags) := fun w2 va2 hx => by
       have hold : Old w2 (BW w2) := by rw [hBW]; exact bytesWorld_old w2 ⟨#[38, 97, 109, 112, 59]⟩
       have hll : Lies (BW w2) w2.heap.size 0 [38, 97, 109, 112, 59] := by rw [hBW]; exact bytesWorld_lies w2 [38, 97, 109, 112, 59]
       refine (pwrite X ⟨va2, v.pv, v.tv⟩ _ tags (BW w2) (hx.2.old hold) [38, 97, 109, 112, 59] w2.heap.size 0 5 (CAP w2) rfl ?_ hll ?_ ?_ (by rw [List.length_append]; have := hbd.out; omega)).mono ?_
       ·rw [hCAP]; exact grownCap_ge _ _ _ _
       ·intro hh; exact absurd (hx.2.lt _ (.inr (.inl hh))) (Nat.lt_irrefl _)
       ·have := (World.block_lt_of_cell? (BW w2) ⟨w2.heap.size, 0, none⟩ (hll 0 _ rfl)); exact this
       ·rintro e w3 ⟨rfl, va3, k1, k2⟩
        refine ⟨_, rfl, va3, (hx.1.old hold).trans k1, ?_⟩
        have e1 : escL false (a1 ++ a2 ++ [38]) = escL false a1 ++ nb a2 ++ [38, 97, 109, 112, 59] := by rw [escL_app, escL_app, hpl.out]; rfl
        rw [e1, <- List.append_assoc, <- List.append_assoc]
        exact k2
      replace hp2 := zz hp2
      replace hCAP := zz hCAP
      replace hBW := zz hBW
      go_wp2_with (first | (go_at_call 100; refine hdec.out.mono ?_; rintro e w1 ⟨rfl, o1⟩))
      refine wp_region_tail 10 [] [0, 1, 2, 3, 4, 5, 6, 7, 8, 9] (by kernel_rfl) (by kernel_rfl) (fun _ _ _ _ _ h => h) ?_
      simp only [List.filterMap_cons, List.filterMap_nil, List.getElem?_toArray, List.getElem?_cons_zero, List.getElem?_cons_succ, List.nil_append, List.cons_append, List.drop_succ_cons, List.drop_zero]
      repeat still_step
      refine wpStill_nil ?_
      go_wp2_with (first | (go_at_call 57; refine (hp1.out _ o1.out.drew).mono ?_; rintro e w2 ⟨q2, rfl, k2⟩; obtain ⟨va2, k2⟩ := k2.out; replace k2 := zz k2; clear hp1) | (go_at_call 57; refine (hp2.out _ va2 k2.out).mono ?_; rintro e w3 ⟨q3, rfl, k3⟩))
      go_roundg b.length
      case measure => exact Nat.lt_succ_self _
      case rel =>
       obtain ⟨va3, k4, k5⟩ := k3.out
       exact ⟨a1 ++ a2 ++ [38], [], b, _, va3, I2, I2, rfl, congrArg (Value.int .i64) (by have := hI2.out.1; omega), congrArg (Value.int .i64) (by have := hI2.out.1; omega), by rw [nb_snoc, <- hI.out, <- hI2.out.2]; exact hI2.out.1, by rw [List.append_nil, nb_snoc, <- hI.out, <- hI2.out.2]; exact hI2.out.1, by rw [<- hab.out]; simp, rfl, rfl, k4, k5⟩
     ·
      by_cases h60 : r = 60
      ·subst h60
       obtain ⟨CAP, hCAP⟩ : ∃ CAP : World -> Nat, CAP = fun w => grownCap w 4 0 5 := ⟨_, rfl⟩
       obtain ⟨BW, hBW⟩ : ∃ BW : World -> World, BW = fun w => Lib.bytesWorld w 5 ⟨#[38, 108, 116, 59]⟩ := ⟨_, rfl⟩
       have hcv : ∀ w2, (convert 9 56 (.string ⟨#[38, 108, 116, 59]⟩)).run Tryz.prog w2 = .ok (.slice (some ⟨w2.heap.size, 0, none⟩) 4 (CAP w2)) (BW w2) := fun w2 => by
        rw [hCAP, hBW]
        exact Lib.run_convert_string_bytes (P := Tryz.prog) w2 9 56 5 ⟨#[38, 108, 116, 59]⟩ Tryz.underlying9 Tryz.underlying56 Tryz.underlying5
       have hp2 : ∀ w2 va2, PSt X w v w2 ⟨va2, v.pv, v.tv⟩ /\ Pr X w2 ⟨va2, v.pv, v.tv⟩ false (out ++ escL false a1 ++ nb a2) tags -> Calls Tryz.prog 57 #[.pointer (some ⟨X.P, 0, none⟩), .slice (some ⟨w2.heap.size, 0, none⟩) 4 (CAP w2)] (BW w2) fun e w3 => ∃ q3, e = .returned (.tuple #[q3, .nilIface]) /\ Hid (∃ va3, PSt X w v w3 ⟨va3, v.pv, v.tv⟩ /\ Pr X w3 ⟨va3, v.pv, v.tv⟩ false (out ++ escL false (a1 ++ a2 ++ [60])) tags) := fun w2 va2 hx => by
        have hold : Old w2 (BW w2) := by rw [hBW]; exact bytesWorld_old w2 ⟨#[38, 108, 116, 59]⟩
        have hll : Lies (BW w2) w2.heap.size 0 [38, 108, 116, 59] := by rw [hBW]; exact bytesWorld_lies w2 [38, 108, 116, 59]
        refine (pwrite X ⟨va2, v.pv, v.tv⟩ _ tags (BW w2) (hx.2.old hold) [38, 108, 116, 59] w2.heap.size 0 4 (CAP w2) rfl ?_ hll ?_ ?_ (by rw [List.length_append]; have := hbd.out; omega)).mono ?_
        ·rw [hCAP]; exact grownCap_ge _ _ _ _
        ·intro hh; exact absurd (hx.2.lt _ (.inr (.inl hh))) (Nat.lt_irrefl _)
        ·have := (World.block_lt_of_cell? (BW w2) ⟨w2.heap.size, 0, none⟩ (hll 0 _ rfl)); exact this
        ·rintro e w3 ⟨rfl, va3, k1, k2⟩
         refine ⟨_, rfl, va3, (hx.1.old hold).trans k1, ?_⟩
         have e1 : escL false (a1 ++ a2 ++ [60]) = escL false a1 ++ nb a2 ++ [38, 108, 116, 59] := by rw [escL_app, escL_app, hpl.out]; rfl
         rw [e1, <- List.append_assoc, <- List.append_assoc]
         exact k2
       replace hp2 := zz hp2
       replace hCAP := zz hCAP
       replace hBW := zz hBW
       go_wp2_with (first | (go_at_call 100; refine hdec.out.mono ?_; rintro e w1 ⟨rfl, o1⟩))
       refine wp_region_tail 10 [] [0, 1, 2, 3, 4, 5, 6, 7, 8, 9] (by kernel_rfl) (by kernel_rfl) (fun _ _ _ _ _ h => h) ?_
       simp only [List.filterMap_cons, List.filterMap_nil, List.getElem?_toArray, List.getElem?_cons_zero, List.getElem?_cons_succ, List.nil_append, List.cons_append, List.drop_succ_cons, List.drop_zero]
       repeat still_step
       refine wpStill_nil ?_
       go_wp2_with (first | (go_at_call 57; refine (hp1.out _ o1.out.drew).mono ?_; rintro e w2 ⟨q2, rfl, k2⟩; obtain ⟨va2, k2⟩ := k2.out; replace k2 := zz k2; clear hp1) | (go_at_call 57; refine (hp2.out _ va2 k2.out).mono ?_; rintro e w3 ⟨q3, rfl, k3⟩))
       go_roundg b.length
       case measure => exact Nat.lt_succ_self _
       case rel =>
        obtain ⟨va3, k4, k5⟩ := k3.out
        exact ⟨a1 ++ a2 ++ [60], [], b, _, va3, I2, I2, rfl, congrArg (Value.int .i64) (by have := hI2.out.1; omega), congrArg (Value.int .i64) (by have := hI2.out.1; omega), by rw [nb_snoc, <- hI.out, <- hI2.out.2]; exact hI2.out.1, by rw [List.append_nil, nb_snoc, <- hI.out, <- hI2.out.2]; exact hI2.out.1, by rw [<- hab.out]; simp, rfl, rfl, k4, k5⟩
      ·
       by_cases h62 : r = 62
       ·subst h62
        obtain ⟨CAP, hCAP⟩ : ∃ CAP : World -> Nat, CAP = fun w => grownCap w 4 0 5 := ⟨_, rfl⟩
        obtain ⟨BW, hBW⟩ : ∃ BW : World -> World, BW = fun w => Lib.bytesWorld w 5 ⟨#[38, 103, 116, 59]⟩ := ⟨_, rfl⟩
        have hcv : ∀ w2, (convert 9 56 (.string ⟨#[38, 103, 116, 59]⟩)).run Tryz.prog w2 = .ok (.slice (some ⟨w2.heap.size, 0, none⟩) 4 (CAP w2)) (BW w2) := fun w2 => by
         rw [hCAP, hBW]
         exact Lib.run_convert_string_bytes (P := Tryz.prog) w2 9 56 5 ⟨#[38, 103, 116, 59]⟩ Tryz.underlying9 Tryz.underlying56 Tryz.underlying5
        have hp2 : ∀ w2 va2, PSt X w v w2 ⟨va2, v.pv, v.tv⟩ /\ Pr X w2 ⟨va2, v.pv, v.tv⟩ false (out ++ escL false a1 ++ nb a2) tags -> Calls Tryz.prog 57 #[.pointer (some ⟨X.P, 0, none⟩), .slice (some ⟨w2.heap.size, 0, none⟩) 4 (CAP w2)] (BW w2) fun e w3 => ∃ q3, e = .returned (.tuple #[q3, .nilIface]) /\ Hid (∃ va3, PSt X w v w3 ⟨va3, v.pv, v.tv⟩ /\ Pr X w3 ⟨va3, v.pv, v.tv⟩ false (out ++ escL false (a1 ++ a2 ++ [62])) tags) := fun w2 va2 hx => by
         have hold : Old w2 (BW w2) := by rw [hBW]; exact bytesWorld_old w2 ⟨#[38, 103, 116, 59]⟩
         have hll : Lies (BW w2) w2.heap.size 0 [38, 103, 116, 59] := by rw [hBW]; exact bytesWorld_lies w2 [38, 103, 116, 59]
         refine (pwrite X ⟨va2, v.pv, v.tv⟩ _ tags (BW w2) (hx.2.old hold) [38, 103, 116, 59] w2.heap.size 0 4 (CAP w2) rfl ?_ hll ?_ ?_ (by rw [List.length_append]; have := hbd.out; omega)).mono ?_
         ·rw [hCAP]; exact grownCap_ge _ _ _ _
         ·intro hh; exact absurd (hx.2.lt _ (.inr (.inl hh))) (Nat.lt_irrefl _)
         ·have := (World.block_lt_of_cell? (BW w2) ⟨w2.heap.size, 0, none⟩ (hll 0 _ rfl)); exact this
         ·rintro e w3 ⟨rfl, va3, k1, k2⟩
          refine ⟨_, rfl, va3, (hx.1.old hold).trans k1, ?_⟩
          have e1 : escL false (a1 ++ a2 ++ [62]) = escL false a1 ++ nb a2 ++ [38, 103, 116, 59] := by rw [escL_app, escL_app, hpl.out]; rfl
          rw [e1, <- List.append_assoc, <- List.append_assoc]
          exact k2
        replace hp2 := zz hp2
        replace hCAP := zz hCAP
        replace hBW := zz hBW
        go_wp2_with (first | (go_at_call 100; refine hdec.out.mono ?_; rintro e w1 ⟨rfl, o1⟩))
        refine wp_region_tail 10 [] [0, 1, 2, 3, 4, 5, 6, 7, 8, 9] (by kernel_rfl) (by kernel_rfl) (fun _ _ _ _ _ h => h) ?_
        simp only [List.filterMap_cons, List.filterMap_nil, List.getElem?_toArray, List.getElem?_cons_zero, List.getElem?_cons_succ, List.nil_append, List.cons_append, List.drop_succ_cons, List.drop_zero]
        repeat still_step
        refine wpStill_nil ?_
        go_wp2_with (first | (go_at_call 57; refine (hp1.out _ o1.out.drew).mono ?_; rintro e w2 ⟨q2, rfl, k2⟩; obtain ⟨va2, k2⟩ := k2.out; replace k2 := zz k2; clear hp1) | (go_at_call 57; refine (hp2.out _ va2 k2.out).mono ?_; rintro e w3 ⟨q3, rfl, k3⟩))
        go_roundg b.length
        case measure => exact Nat.lt_succ_self _
        case rel =>
         obtain ⟨va3, k4, k5⟩ := k3.out
         exact ⟨a1 ++ a2 ++ [62], [], b, _, va3, I2, I2, rfl, congrArg (Value.int .i64) (by have := hI2.out.1; omega), congrArg (Value.int .i64) (by have := hI2.out.1; omega), by rw [nb_snoc, <- hI.out, <- hI2.out.2]; exact hI2.out.1, by rw [List.append_nil, nb_snoc, <- hI.out, <- hI2.out.2]; exact hI2.out.1, by rw [<- hab.out]; simp, rfl, rfl, k4, k5⟩
       ·
        by_cases h9 : r = 9
        ·subst h9
         obtain ⟨CAP, hCAP⟩ : ∃ CAP : World -> Nat, CAP = fun w => grownCap w 5 0 5 := ⟨_, rfl⟩
         obtain ⟨BW, hBW⟩ : ∃ BW : World -> World, BW = fun w => Lib.bytesWorld w 5 ⟨#[38, 35, 120, 57, 59]⟩ := ⟨_, rfl⟩
         have hcv : ∀ w2, (convert 9 56 (.string ⟨#[38, 35, 120, 57, 59]⟩)).run Tryz.prog w2 = .ok (.slice (some ⟨w2.heap.size, 0, none⟩) 5 (CAP w2)) (BW w2) := fun w2 => by
          rw [hCAP, hBW]
          exact Lib.run_convert_string_bytes (P := Tryz.prog) w2 9 56 5 ⟨#[38, 35, 120, 57, 59]⟩ Tryz.underlying9 Tryz.underlying56 Tryz.underlying5
         have hp2 : ∀ w2 va2, PSt X w v w2 ⟨va2, v.pv, v.tv⟩ /\ Pr X w2 ⟨va2, v.pv, v.tv⟩ false (out ++ escL false a1 ++ nb a2) tags -> Calls Tryz.prog 57 #[.pointer (some ⟨X.P, 0, none⟩), .slice (some ⟨w2.heap.size, 0, none⟩) 5 (CAP w2)] (BW w2) fun e w3 => ∃ q3, e = .returned (.tuple #[q3, .nilIface]) /\ Hid (∃ va3, PSt X w v w3 ⟨va3, v.pv, v.tv⟩ /\ Pr X w3 ⟨va3, v.pv, v.tv⟩ false (out ++ escL false (a1 ++ a2 ++ [9])) tags) := fun w2 va2 hx => by
          have hold : Old w2 (BW w2) := by rw [hBW]; exact bytesWorld_old w2 ⟨#[38, 35, 120, 57, 59]⟩
          have hll : Lies (BW w2) w2.heap.size 0 [38, 35, 120, 57, 59] := by rw [hBW]; exact bytesWorld_lies w2 [38, 35, 120, 57, 59]
          refine (pwrite X ⟨va2, v.pv, v.tv⟩ _ tags (BW w2) (hx.2.old hold) [38, 35, 120, 57, 59] w2.heap.size 0 5 (CAP w2) rfl ?_ hll ?_ ?_ (by rw [List.length_append]; have := hbd.out; omega)).mono ?_
          ·rw [hCAP]; exact grownCap_ge _ _ _ _
          ·intro hh; exact absurd (hx.2.lt _ (.inr (.inl hh))) (Nat.lt_irrefl _)
          ·have := (World.block_lt_of_cell? (BW w2) ⟨w2.heap.size, 0, none⟩ (hll 0 _ rfl)); exact this
          ·rintro e w3 ⟨rfl, va3, k1, k2⟩
           refine ⟨_, rfl, va3, (hx.1.old hold).trans k1, ?_⟩
           have e1 : escL false (a1 ++ a2 ++ [9]) = escL false a1 ++ nb a2 ++ [38, 35, 120, 57, 59] := by rw [escL_app, escL_app, hpl.out]; rfl
           rw [e1, <- List.append_assoc, <- List.append_assoc]
           exact k2
         replace hp2 := zz hp2
         replace hCAP := zz hCAP
         replace hBW := zz hBW
         go_wp2_with (first | (go_at_call 100; refine hdec.out.mono ?_; rintro e w1 ⟨rfl, o1⟩))
         refine wp_region_tail 10 [] [0, 1, 2, 3, 4, 5, 6, 7, 8, 9] (by kernel_rfl) (by kernel_rfl) (fun _ _ _ _ _ h => h) ?_
         simp only [List.filterMap_cons, List.filterMap_nil, List.getElem?_toArray, List.getElem?_cons_zero, List.getElem?_cons_succ, List.nil_append, List.cons_append, List.drop_succ_cons, List.drop_zero]
         repeat still_step
         refine wpStill_nil ?_
         go_wp2_with (first | (go_at_call 57; refine (hp1.out _ o1.out.drew).mono ?_; rintro e w2 ⟨q2, rfl, k2⟩; obtain ⟨va2, k2⟩ := k2.out; replace k2 := zz k2; clear hp1) | (go_at_call 57; refine (hp2.out _ va2 k2.out).mono ?_; rintro e w3 ⟨q3, rfl, k3⟩))
         go_roundg b.length
         case measure => exact Nat.lt_succ_self _
         case rel =>
          obtain ⟨va3, k4, k5⟩ := k3.out
          exact ⟨a1 ++ a2 ++ [9], [], b, _, va3, I2, I2, rfl, congrArg (Value.int .i64) (by have := hI2.out.1; omega), congrArg (Value.int .i64) (by have := hI2.out.1; omega), by rw [nb_snoc, <- hI.out, <- hI2.out.2]; exact hI2.out.1, by rw [List.append_nil, nb_snoc, <- hI.out, <- hI2.out.2]; exact hI2.out.1, by rw [<- hab.out]; simp, rfl, rfl, k4, k5⟩
        ·
         by_cases h10 : r = 10
         ·subst h10
          have hin := fun w => inRange_do 10 hch w
          clear hp1
          go_wp2_with (first | (go_at_call 100; refine hdec.out.mono ?_; rintro e w1 ⟨rfl, o1⟩) | (go_at_call 101; refine (hin _).mono ?_; rintro e w2 ⟨rfl, rfl⟩))
          go_roundg b.length
          case measure => exact Nat.lt_succ_self _
          case rel =>
           exact ⟨a1, a2 ++ [10], b, _, va1, L, I2, rfl, rfl, congrArg (Value.int .i64) (by have := hI2.out.1; omega), hL.out, by rw [<- List.append_assoc, nb_snoc, <- hI.out, <- hI2.out.2]; exact hI2.out.1, by rw [<- hab.out]; simp, by rw [escL_app, nb_append, hpl.out]; rfl, rfl, hS.out.old o1.out, hP.out.old o1.out⟩
         ·
          by_cases h13 : r = 13
          ·subst h13
           obtain ⟨CAP, hCAP⟩ : ∃ CAP : World -> Nat, CAP = fun w => grownCap w 5 0 5 := ⟨_, rfl⟩
           obtain ⟨BW, hBW⟩ : ∃ BW : World -> World, BW = fun w => Lib.bytesWorld w 5 ⟨#[38, 35, 120, 68, 59]⟩ := ⟨_, rfl⟩
           have hcv : ∀ w2, (convert 9 56 (.string ⟨#[38, 35, 120, 68, 59]⟩)).run Tryz.prog w2 = .ok (.slice (some ⟨w2.heap.size, 0, none⟩) 5 (CAP w2)) (BW w2) := fun w2 => by
            rw [hCAP, hBW]
            exact Lib.run_convert_string_bytes (P := Tryz.prog) w2 9 56 5 ⟨#[38, 35, 120, 68, 59]⟩ Tryz.underlying9 Tryz.underlying56 Tryz.underlying5
           have hp2 : ∀ w2 va2, PSt X w v w2 ⟨va2, v.pv, v.tv⟩ /\ Pr X w2 ⟨va2, v.pv, v.tv⟩ false (out ++ escL false a1 ++ nb a2) tags -> Calls Tryz.prog 57 #[.pointer (some ⟨X.P, 0, none⟩), .slice (some ⟨w2.heap.size, 0, none⟩) 5 (CAP w2)] (BW w2) fun e w3 => ∃ q3, e = .returned (.tuple #[q3, .nilIface]) /\ Hid (∃ va3, PSt X w v w3 ⟨va3, v.pv, v.tv⟩ /\ Pr X w3 ⟨va3, v.pv, v.tv⟩ false (out ++ escL false (a1 ++ a2 ++ [13])) tags) := fun w2 va2 hx => by
            have hold : Old w2 (BW w2) := by rw [hBW]; exact bytesWorld_old w2 ⟨#[38, 35, 120, 68, 59]⟩
            have hll : Lies (BW w2) w2.heap.size 0 [38, 35, 120, 68, 59] := by rw [hBW]; exact bytesWorld_lies w2 [38, 35, 120, 68, 59]
            refine (pwrite X ⟨va2, v.pv, v.tv⟩ _ tags (BW w2) (hx.2.old hold) [38, 35, 120, 68, 59] w2.heap.size 0 5 (CAP w2) rfl ?_ hll ?_ ?_ (by rw [List.length_append]; have := hbd.out; omega)).mono ?_
            ·rw [hCAP]; exact grownCap_ge _ _ _ _
            ·intro hh; exact absurd (hx.2.lt _ (.inr (.inl hh))) (Nat.lt_irrefl _)
            ·have := (World.block_lt_of_cell? (BW w2) ⟨w2.heap.size, 0, none⟩ (hll 0 _ rfl)); exact this
            ·rintro e w3 ⟨rfl, va3, k1, k2⟩
             refine ⟨_, rfl, va3, (hx.1.old hold).trans k1, ?_⟩
             have e1 : escL false (a1 ++ a2 ++ [13]) = escL false a1 ++ nb a2 ++ [38, 35, 120, 68, 59] := by rw [escL_app, escL_app, hpl.out]; rfl
             rw [e1, <- List.append_assoc, <- List.append_assoc]
             exact k2
           replace hp2 := zz hp2
           replace hCAP := zz hCAP
           replace hBW := zz hBW
           go_wp2_with (first | (go_at_call 100; refine hdec.out.mono ?_; rintro e w1 ⟨rfl, o1⟩))
           refine wp_region_tail 10 [] [0, 1, 2, 3, 4, 5, 6, 7, 8, 9] (by kernel_rfl) (by kernel_rfl) (fun _ _ _ _ _ h => h) ?_
           simp only [List.filterMap_cons, List.filterMap_nil, List.getElem?_toArray, List.getElem?_cons_zero, List.getElem?_cons_succ, List.nil_append, List.cons_append, List.drop_succ_cons, List.drop_zero]
           repeat still_step
           refine wpStill_nil ?_
           go_wp2_with (first | (go_at_call 57; refine (hp1.out _ o1.out.drew).mono ?_; rintro e w2 ⟨q2, rfl, k2⟩; obtain ⟨va2, k2⟩ := k2.out; replace k2 := zz k2; clear hp1) | (go_at_call 57; refine (hp2.out _ va2 k2.out).mono ?_; rintro e w3 ⟨q3, rfl, k3⟩))
           go_roundg b.length
           case measure => exact Nat.lt_succ_self _
           case rel =>
            obtain ⟨va3, k4, k5⟩ := k3.out
            exact ⟨a1 ++ a2 ++ [13], [], b, _, va3, I2, I2, rfl, congrArg (Value.int .i64) (by have := hI2.out.1; omega), congrArg (Value.int .i64) (by have := hI2.out.1; omega), by rw [nb_snoc, <- hI.out, <- hI2.out.2]; exact hI2.out.1, by rw [List.append_nil, nb_snoc, <- hI.out, <- hI2.out.2]; exact hI2.out.1, by rw [<- hab.out]; simp, rfl, rfl, k4, k5⟩
          ·
           have hpe : esc false r = cb r := esc_plain false ⟨h34, h39, h38, h60, h62, h9, h10, h13⟩
           replace hpe := zz hpe
           have hin := fun w => inRange_do r hch w
           have b34 : ((r : Int) == 34) = false := by rw [beq_eq_false_iff_ne]; omega
           have b39 : ((r : Int) == 39) = false := by rw [beq_eq_false_iff_ne]; omega
           have b38 : ((r : Int) == 38) = false := by rw [beq_eq_false_iff_ne]; omega
           have b60 : ((r : Int) == 60) = false := by rw [beq_eq_false_iff_ne]; omega
           have b62 : ((r : Int) == 62) = false := by rw [beq_eq_false_iff_ne]; omega
           have b9 : ((r : Int) == 9) = false := by rw [beq_eq_false_iff_ne]; omega
           have b10 : ((r : Int) == 10) = false := by rw [beq_eq_false_iff_ne]; omega
           have b13 : ((r : Int) == 13) = false := by rw [beq_eq_false_iff_ne]; omega
           clear hp1
           clear h34 h39 h38 h60 h62 h9 h10 h13
           by_cases hff : r = 65533
           ·subst hff
            have hK3 : ((K : Int) == 1) = false := by rw [beq_eq_false_iff_ne, hI2.out.2]; decide
            go_wp2_with (first | (go_at_call 100; refine hdec.out.mono ?_; rintro e w1 ⟨rfl, o1⟩) | (go_at_call 101; refine (hin _).mono ?_; rintro e w2 ⟨rfl, rfl⟩))
            go_roundg b.length
            case measure => exact Nat.lt_succ_self _
            case rel =>
             exact ⟨a1, a2 ++ [65533], b, _, va1, L, I2, rfl, rfl, congrArg (Value.int .i64) (by have := hI2.out.1; omega), hL.out, by rw [<- List.append_assoc, nb_snoc, <- hI.out, <- hI2.out.2]; exact hI2.out.1, by rw [<- hab.out]; simp, by rw [escL_app, nb_append, hpl.out]; simp [escL, nb, hpe.out], rfl, hS.out.old o1.out, hP.out.old o1.out⟩
           ·have hffb : ((r : Int) == 65533) = false := by rw [beq_eq_false_iff_ne]; omega
            go_wp2_with (first | (go_at_call 100; refine hdec.out.mono ?_; rintro e w1 ⟨rfl, o1⟩) | (go_at_call 101; refine (hin _).mono ?_; rintro e w2 ⟨rfl, rfl⟩))
            go_roundg b.length
            case measure => exact Nat.lt_succ_self _
            case rel =>
             exact ⟨a1, a2 ++ [r], b, _, va1, L, I2, rfl, rfl, congrArg (Value.int .i64) (by have := hI2.out.1; omega), hL.out, by rw [<- List.append_assoc, nb_snoc, <- hI.out, <- hI2.out.2]; exact hI2.out.1, by rw [<- hab.out]; simp, by rw [escL_app, nb_append, hpl.out]; simp [escL, nb, hpe.out], rfl, hS.out.old o1.out, hP.out.old o1.out⟩
end Go.Proofs.YtepbbahdhhjibaaGreatDoor
