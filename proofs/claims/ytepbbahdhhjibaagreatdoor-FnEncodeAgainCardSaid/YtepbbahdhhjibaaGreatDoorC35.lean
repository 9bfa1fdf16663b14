/- own text -/
import Derived.Laws.AppendOwnNone
import Derived.Test.YtepbbahdhhjibaaGreatDoorC34
namespace Go.Proofs.YtepbbahdhhjibaaGreatDoor
set_option linter.unusedSimpArgs false
set_option linter.unusedVariables false
set_option maxHeartbeats 8000000
set_option maxRecDepth 100000
set_option linter.unusedSectionVars false
section
open Go.RowKit
structure FailP (P : Nat) (s : ByteArray) (q : PV) (w w' : World) : Prop where
 ex : ∃ (a' : Nat) (vd' : Int), a' <= s.size /\ vd' ≠ 0 /\ PB w' P s a' q vd' /\ FrP P w w'
def RefEl (el : El) (r : Nat) : Prop := (∃ hex ds, el = .num hex ds /\ ds ≠ [] /\ (∀ c ∈ ds, isDig (El.base hex) c = true) /\ numFrom (El.base hex) 0 ds = r) \/ (∃ nm, el = .nam nm r /\ (nm, r) ∈ ents)
structure RefP (P : Nat) (s : ByteArray) (a : Nat) (q : PV) (vd : Int) (w : World) (e : Ending) (w' : World) : Prop where
 ex : ∃ (x : ByteArray) (ok : Bool), e = .returned (.tuple #[.string x, .bool ok]) /\ ((ok = false /\ FailP P s q w w') \/ (ok = true /\ ∃ el r rest, x = ⟨(u8 r).toArray⟩ /\ isCh r = true /\ RefEl el r /\ 38 :: s.data.toList.drop a = el.src ++ rest /\ PB w' P s (a + el.src.length - 1) q vd /\ FrP P w w'))
theorem info275 : (Tryz.prog.info? 275).map (fun i => (i.zero, i.size, i.bytes)) = some (some (.agg #[.string ⟨#[]⟩, .string ⟨#[]⟩]), 2, 32) := by kernel_rfl
def pairsA : Array Value := #[.string ⟨#[108, 116]⟩, .string ⟨#[60]⟩, .string ⟨#[103, 116]⟩, .string ⟨#[62]⟩, .string ⟨#[97, 109, 112]⟩, .string ⟨#[38]⟩, .string ⟨#[97, 112, 111, 115]⟩, .string ⟨#[39]⟩, .string ⟨#[113, 117, 111, 116]⟩, .string ⟨#[34]⟩]
theorem split59 (l : List UInt8) : ∃ ds t, l = ds ++ t /\ (59 : UInt8) ∉ ds /\ (t = [] \/ ∃ t', t = 59 :: t') := by
 induction l with
 | nil => exact ⟨[], [], rfl, by simp, .inl rfl⟩
 | cons c l ih =>
  by_cases h : c = 59
  ·subst h; exact ⟨[], 59 :: l, rfl, by simp, .inr ⟨l, rfl⟩⟩
  ·obtain ⟨ds, t, h1, h2, h3⟩ := ih
   refine ⟨c :: ds, t, by rw [h1]; rfl, ?_, h3⟩
   intro hm
   rcases List.mem_cons.1 hm with hm | hm
   ·exact h hm.symm
   ·exact h2 hm
theorem reference_do (P : Nat) (s : ByteArray) (a : Nat) (q : PV) (vd : Int) (w : World) (h : PB w P s a q vd) (hz : s.size <= 1000000) (ha : a <= s.size) : Calls Tryz.prog 163 #[.pointer (some ⟨P, 0, none⟩)] w (RefP P s a q vd w) := by
 obtain ⟨c0, c1, _, _, _, _, _, _, _, cf⟩ := h.c
 obtain ⟨ds, t, hL, hno, ht⟩ := split59 (s.data.toList.drop a)
 have hsz := at_le hL ha
 replace h := zz h
 replace hno := zz hno
 replace hL := zz hL
 have hfail : ∀ (A : Nat) (v : Int) (w1 : World), A <= s.size -> v ≠ 0 -> PB w1 P s A q vd -> FrP P w w1 -> Calls Tryz.prog 82 #[.pointer (some ⟨P, 0, none⟩), .int .i64 v] w1 fun e w' => e = .returned (.bool false) /\ Hid (FailP P s q w w') := fun A v w1 hA hv hB hF => by
  refine (spFail_do hB v).mono ?_
  rintro e w' ⟨rfl, k1, k2⟩
  exact ⟨rfl, A, v, hA, hv, k1, frp_tr hF k2⟩
 replace hfail := zz hfail
 go_enter Tryz.func163, Tryz.ntmps163
 go_wp2
 go_loopg [4] ds.length (fun k u4 wr => ∃ i : Nat, u4 = .int .i64 ((a + i : Nat) : Int) /\ i + k = ds.length /\ wr = w)
 case atStart => exact ⟨0, rfl, by omega, rfl⟩
 case round =>
  obtain ⟨i, rfl, hi, rfl⟩ := hrel
  by_cases hlt : i < ds.length
  ·have hb : s.data.toList.drop (a + i) = ds[i] :: (ds.drop (i + 1) ++ t) := by
    rw [<- List.drop_drop, hL.out, List.drop_append_of_le_length (by omega), List.drop_eq_getElem_cons hlt, List.cons_append]
   obtain ⟨h1, h2, _⟩ := at_byte hb
   have hne : ds[i] ≠ 59 := fun e => hno.out (e ▸ List.getElem_mem hlt)
   obtain ⟨n, hn⟩ : ∃ n, n = (ds[i]).toNat := ⟨_, rfl⟩
   rw [<- hn] at h2
   have e0 : ((n : Int) != 59) = true := by
    rw [bne_iff_ne]; intro e
    apply hne
    exact UInt8.toNat_inj.1 (by rw [<- hn]; show n = 59; omega)
   obtain ⟨A, hA⟩ : ∃ A, A = a + i := ⟨_, rfl⟩
   rw [<- hA] at h1 h2 ⊢
   have i1 : (A : Int) < (s.size : Int) := by omega
   have i2 : IntKind.i64.wrap ((A : Int) + 1) = ((A + 1 : Nat) : Int) := by rw [IntWalk.i64_in _ (by omega)]; omega
   replace hA := zz hA
   replace hn := zz hn
   replace hi := zz hi
   clear hb hne hsz
   go_wp2
   go_roundg (ds.length - (i + 1))
   case measure => have := hi.out; omega
   case rel => exact ⟨i + 1, congrArg (Value.int .i64) (by have := hA.out; omega), by have := hi.out; omega, rfl⟩
  ·have hie : i = ds.length := by omega
   subst hie
   clear hi hlt
   obtain ⟨A, hA⟩ : ∃ A, A = a + ds.length := ⟨_, rfl⟩
   rw [<- hA] at hsz ⊢
   have hgo := at_go hL.out
   rw [<- hA] at hgo
   rcases ht with rfl | ⟨rest, rfl⟩
   ·have hAs : A = s.size := by simp at hsz; omega
    have e1 : ((A : Int) == (s.size : Int)) = true := by rw [beq_iff_eq]; omega
    have e2 : ¬ ((A : Int) < (s.size : Int)) := by omega
    have hf := hfail.out a 1 wr ha (by omega) h.out (Fr.refl _ _)
    replace hf := zz hf
    replace hA := zz hA
    replace hAs := zz hAs
    clear hsz hgo
    go_wp2_with (go_at_call 82; refine hf.out.mono ?_; rintro e w2 ⟨rfl, k2⟩)
    go_ret2
    exact ⟨⟨⟨#[]⟩, false, rfl, .inl ⟨rfl, k2.out⟩⟩⟩
   ·obtain ⟨h1, h2, h3⟩ := at_byte hgo
    have h2' : ∀ h : A < s.size, (s[A]'h).toNat = 59 := h2
    have e1 : ((A : Int) == (s.size : Int)) = false := by rw [beq_eq_false_iff_ne]; omega
    have e2 : (A : Int) < (s.size : Int) := by omega
    have e3 : (A : Int) <= (s.size : Int) := by omega
    have e4 : (a : Int) <= (A : Int) := by omega
    have e5 : (0 : Int) <= (a : Int) := by omega
    have i2 : IntKind.i64.wrap ((A : Int) + 1) = ((A + 1 : Nat) : Int) := by rw [IntWalk.i64_in _ (by omega)]; omega
    have hX : (s.extract a A).data.toList = ds := by
     rw [ext_sub, hA, List.take_add, List.drop_append_of_le_length (by simp; omega), List.drop_take_self, List.nil_append, hL.out, List.take_left]
    generalize hXe : s.extract a A = X at *
    have hXs : X.size = ds.length := by rw [Lib.size_eq, hX]
    have hW1 : ∀ nq : Nat, PB ((wr.drewN nq).setCell ⟨P, 1, none⟩ (.int .i64 ((A + 1 : Nat) : Int))) P s (A + 1) q vd /\ FrP P wr ((wr.drewN nq).setCell ⟨P, 1, none⟩ (.int .i64 ((A + 1 : Nat) : Int))) := fun nq => ⟨PB.set1 (w := wr.drewN nq) (h.out.drewN nq) (A + 1), frp_st (frp_of ⟨nq, rfl⟩) _ _⟩
    have hsrc : ∀ el : El, el.src = 38 :: (ds ++ [59]) -> 38 :: s.data.toList.drop a = el.src ++ rest /\ a + el.src.length - 1 = A + 1 := fun el he => by
     rw [he, hL.out]; exact ⟨by simp, by simp; omega⟩
    replace h2 := zz h2
    replace h3 := zz h3
    replace hX := zz hX
    replace hXe := zz hXe
    replace hXs := zz hXs
    replace hgo := zz hgo
    replace hsrc := zz hsrc
    replace hA := zz hA
    replace hsz := zz hsz
    replace hW1 := zz hW1
    by_cases hash : ∃ ds', ds = 35 :: ds'
    ·obtain ⟨ds', rfl⟩ := hash
     have hb : X.data.toList.drop 0 = 35 :: ds' := by rw [List.drop_zero]; exact hX.out
     obtain ⟨x1, x2, _⟩ := at_byte hb
     have x2' : ∀ h : 0 < X.size, (X[0]'h).toNat = 35 := x2
     have he := toList_ne x1
     have x3 : (0 : Int) < (X.size : Int) := by omega
     have x4 : (1 : Int) <= (X.size : Int) := by omega
     have hX1 : (X.extract 1 X.size).data.toList = ds' := by rw [ext_end, hX.out]; rfl
     have hXl : (X.extract 1 X.size).size <= 1000000 := by rw [ext_size, hXs.out]; have := hsz.out; have := hA.out; omega
     have hnum : ∀ w1, PB w1 P s (A + 1) q vd /\ FrP P wr w1 -> Calls Tryz.prog 176 #[.string (X.extract 1 X.size)] w1 fun e w' => ∃ (n : Int) (ok : Bool), e = .returned (.tuple #[.int .i64 n, .bool ok]) /\ Hid ((PB w' P s (A + 1) q vd /\ FrP P wr w') /\ (ok = true -> ∃ hex dd, ds' = (if hex then [120] else []) ++ dd /\ dd ≠ [] /\ (∀ c ∈ dd, isDig (El.base hex) c = true) /\ (n = -1 \/ n = (numFrom (El.base hex) 0 dd : Nat)))) := fun w1 hw => by
      refine (number_do _ w1 hXl).mono ?_
      rintro e w' ⟨n, ok, rfl, h1, h2⟩
      rw [hX1] at h2
      exact ⟨n, ok, rfl, ⟨Blk.drw hw.1 h1, frp_tr hw.2 (frp_of h1)⟩, h2⟩
     have hfl : ∀ (v : Int) (w1 : World), v ≠ 0 -> (PB w1 P s (A + 1) q vd /\ FrP P wr w1) -> Calls Tryz.prog 82 #[.pointer (some ⟨P, 0, none⟩), .int .i64 v] w1 fun e w' => e = .returned (.bool false) /\ Hid (FailP P s q wr w') := fun v w1 hv hw => hfail.out (A + 1) v w1 (by omega) hv hw.1 hw.2
     have hch : ∀ (n : Int) (w1 : World), (PB w1 P s (A + 1) q vd /\ FrP P wr w1) -> Calls Tryz.prog 46 #[.int .i64 n] w1 fun e w' => e = .returned (.bool (chI n)) /\ Hid (PB w' P s (A + 1) q vd /\ FrP P wr w') := fun n w1 hw => by
      refine (spChar_do n w1).mono ?_
      rintro e w' ⟨rfl, h1⟩
      exact ⟨rfl, Blk.drw hw.1 h1, frp_tr hw.2 (frp_of h1)⟩
     have hen : ∀ (n : Int) (w1 : World), (PB w1 P s (A + 1) q vd /\ FrP P wr w1) -> chI n = true -> Calls Tryz.prog 177 #[.int .i64 n] w1 fun e w' => e = .returned (.string ⟨(u8 n.toNat).toArray⟩) /\ Hid (PB w' P s (A + 1) q vd /\ FrP P wr w') := fun n w1 hw hc => by
      obtain ⟨r, rfl⟩ : ∃ r : Nat, n = r := by
       refine ⟨n.toNat, ?_⟩
       unfold chI at hc
       have := of_decide_eq_true hc
       omega
      rw [chI_nat] at hc
      refine (encode_do' r (isCh_ok hc) w1).mono ?_
      rintro e w' ⟨rfl, h1⟩
      exact ⟨rfl, hw.1.keep h1 (fun h => h), hw.2.old h1⟩
     replace hnum := zz hnum
     replace hfl := zz hfl
     replace hch := zz hch
     replace hen := zz hen
     replace hb := zz hb
     replace x2 := zz x2
     clear hX1 hXl hfail
     have hfin : ∀ (n : Int) (w1 : World), chI n = true -> (∃ hex dd, ds' = (if hex then [120] else []) ++ dd /\ dd ≠ [] /\ (∀ c ∈ dd, isDig (El.base hex) c = true) /\ (n = -1 \/ n = (numFrom (El.base hex) 0 dd : Nat))) -> (PB w1 P s (A + 1) q vd /\ FrP P wr w1) -> RefP P s a q vd wr (.returned (.tuple #[.string ⟨(u8 n.toNat).toArray⟩, .bool true])) w1 := fun n w1 hc hd hw => by
      obtain ⟨hex, dd, d1, d2, d3, d4⟩ := hd
      have hn : n = (numFrom (El.base hex) 0 dd : Nat) := by
       rcases d4 with rfl | d4
       ·exact absurd hc (by decide)
       ·exact d4
      have hsr : (El.num hex dd).src = 38 :: (35 :: ds' ++ [59]) := by rw [d1]; simp [El.src]
      obtain ⟨g1, g2⟩ := hsrc.out _ hsr
      refine ⟨⟨_, true, rfl, .inr ⟨rfl, .num hex dd, n.toNat, rest, rfl, ?_, .inl ⟨hex, dd, rfl, d2, d3, by rw [hn]; rfl⟩, g1, by rw [g2]; exact hw.1, hw.2⟩⟩⟩
      rw [hn] at hc ⊢
      rw [chI_nat] at hc
      exact hc
     replace hfin := zz hfin
     go_wp2
     go_quiet (fail)
     rw [hXe.out]
     go_wp2_with (first
      | (go_at_call 176; refine (hnum.out _ (hW1.out nq)).mono ?_; rintro e w2 ⟨n, ok, rfl, k2⟩)
      | (go_at_call 82; refine (hfl.out _ _ (by decide) (by first | exact k3.out | exact k2.out.1)).mono ?_; rintro e w4 ⟨rfl, k4⟩)
      | (go_at_call 46; refine (hch.out _ _ k2.out.1).mono ?_; rintro e w3 ⟨rfl, k3⟩)
      | (go_at_call 177; refine (hen.out _ _ k3.out (by simpa using ‹(!chI n) = false›)).mono ?_; rintro e w5 ⟨rfl, k5⟩))
     all_goals first
      | (go_ret2
         exact hfin.out n w5 (by simpa using ‹(!chI n) = false›) (k2.out.2 (by simpa using ‹(!ok) = false›)) k5.out)
      | (go_ret2
         exact ⟨⟨⟨#[]⟩, false, rfl, .inl ⟨rfl, k4.out⟩⟩⟩)
    ·
     have hfl : ∀ (v : Int) (w1 : World), v ≠ 0 -> (PB w1 P s (A + 1) q vd /\ FrP P wr w1) -> Calls Tryz.prog 82 #[.pointer (some ⟨P, 0, none⟩), .int .i64 v] w1 fun e w' => e = .returned (.bool false) /\ Hid (FailP P s q wr w') := fun v w1 hv hw => hfail.out (A + 1) v w1 (by omega) hv hw.1 hw.2
     have hXl : X.size <= 1000000 := by have := hXs.out; have := hsz.out; have := hA.out; omega
     have hnk : ∀ w1, PB w1 P s (A + 1) q vd /\ FrP P wr w1 -> Calls Tryz.prog 47 #[.string X] w1 fun e w' => ∃ k : Nat, e = .returned (.int .i64 k) /\ Hid (PB w' P s (A + 1) q vd /\ FrP P wr w') := fun w1 hw => by
      refine (nameKind_do X w1 hXl).mono ?_
      rintro e w' ⟨k, rfl, h1, _⟩
      exact ⟨k, rfl, Blk.drw hw.1 h1, frp_tr hw.2 (frp_of h1)⟩
     have hent : ∀ (nm : List UInt8) (r : Nat) (w1 : World), (nm == X.toList) = true -> (nm, r) ∈ ents -> (PB w1 P s (A + 1) q vd /\ FrP P wr w1) -> RefP P s a q vd wr (.returned (.tuple #[.string ⟨(u8 r).toArray⟩, .bool true])) w1 := fun nm r w1 he hm hw => by
      have hd : ds = nm := by
       rw [beq_iff_eq] at he
       rw [he, Go.ByteArray.toList_eq, hX.out]
      have hsr : (El.nam nm r).src = 38 :: (ds ++ [59]) := by rw [hd]; rfl
      obtain ⟨g1, g2⟩ := hsrc.out _ hsr
      exact ⟨⟨_, true, rfl, .inr ⟨rfl, .nam nm r, r, rest, rfl, (ents_ok hm).2.1, .inr ⟨nm, rfl, hm⟩, g1, by rw [g2]; exact hw.1, hw.2⟩⟩⟩
     have hne35 : (X.size = 0 /\ X.toList.isEmpty = true) \/ (0 < X.size /\ X.toList.isEmpty = false /\ ∃ n : Nat, (∀ h : 0 < X.size, (X[0]'h).toNat = n) /\ ((n : Int) == 35) = false) := by
      cases hdd : ds with
      | nil =>
       have : X.size = 0 := by rw [hXs.out, hdd]; rfl
       exact .inl ⟨this, toList_nil this⟩
      | cons c t =>
       have hb : X.data.toList.drop 0 = c :: t := by rw [List.drop_zero, hX.out]; exact hdd
       obtain ⟨x1, x2, _⟩ := at_byte hb
       refine .inr ⟨x1, toList_ne x1, c.toNat, x2, ?_⟩
       rw [beq_eq_false_iff_ne]
       intro e
       apply hash
       refine ⟨t, ?_⟩
       rw [hdd]
       congr 1
       exact UInt8.toNat_inj.1 (by show c.toNat = 35; omega)
     obtain ⟨i0, hi0, hz0, hz1, hz2⟩ := info_parts info275
     replace hfl := zz hfl
     replace hnk := zz hnk
     replace hent := zz hent
     clear hfail hXl hash
     have hold : ∀ (w1 w2 : World), (PB w1 P s (A + 1) q vd /\ FrP P wr w1) -> Old w1 w2 -> (PB w2 P s (A + 1) q vd /\ FrP P wr w2) := fun w1 w2 hw ho => ⟨hw.1.keep ho (fun h => h), hw.2.old ho⟩
     replace hold := zz hold
     have hk3 : ∀ w2 : World, (PB w2 P s (A + 1) q vd /\ FrP P wr w2) -> ∀ cs, (w2.alloc (.cells cs 275)).cell? ⟨P, 3, none⟩ = some (.slice none 0 0) := fun w2 hw cs => by
      have hb : PB (w2.alloc (.cells cs 275)) P s (A + 1) q vd := hw.1.keep ((Fr.refl (fun _ => False) w2).alloc _) (fun h => h)
      exact hb.c.2.2.2.1
     replace hk3 := zz hk3
     rcases hne35 with ⟨hx0, he⟩ | ⟨hx0, he, n, hix, e35⟩
     all_goals (
      go_wp2
      go_quiet (fail)
      rw [hXe.out]
      go_wp2_with (first
       | (go_at_call 47; refine (hnk.out _ (hW1.out nq)).mono ?_; rintro e w2 ⟨k, rfl, k2⟩; have k3 := hk3.out w2 k2.out)
       | (go_at_call 82; refine (hfl.out _ _ (by decide) k2.out).mono ?_; rintro e w4 ⟨rfl, k4⟩)
       | (at_builtin; refine wpList_append_own_none rfl _ _ 84 rfl 0 275 i0 2 Tryz.underlying84 hi0 _ 5 pairsA.toList rfl (World.ownsRow_lit w2 pairsA 5 (Nat.zero_le _) (by decide) rfl) (by rfl) ?_))
      all_goals first
       | (go_ret2
          exact ⟨⟨⟨#[]⟩, false, rfl, .inl ⟨rfl, k4.out⟩⟩⟩)
       | (refine wp_loop_rounds 6 ?_
          repeat any_goals (rw [rounds_succ]; go_wp2_with (go_at_call 82; refine (hfl.out _ _ (by decide) (hold.out _ _ k2.out (by repeat (first | exact Fr.refl _ _ | refine Fr.alloc ?_ _)))).mono ?_; rintro e w4 ⟨rfl, k4⟩))))
     all_goals first
      | (go_ret2
         exact ⟨⟨⟨#[]⟩, false, rfl, .inl ⟨rfl, k4.out⟩⟩⟩)
      | (go_ret2
         exact hent.out [108, 116] 60 _ ‹([108, 116] == X.toList) = true› (by decide) (hold.out _ _ k2.out (by repeat (first | exact Fr.refl _ _ | refine Fr.alloc ?_ _))))
      | (go_ret2
         exact hent.out [103, 116] 62 _ ‹([103, 116] == X.toList) = true› (by decide) (hold.out _ _ k2.out (by repeat (first | exact Fr.refl _ _ | refine Fr.alloc ?_ _))))
      | (go_ret2
         exact hent.out [97, 109, 112] 38 _ ‹([97, 109, 112] == X.toList) = true› (by decide) (hold.out _ _ k2.out (by repeat (first | exact Fr.refl _ _ | refine Fr.alloc ?_ _))))
      | (go_ret2
         exact hent.out [97, 112, 111, 115] 39 _ ‹([97, 112, 111, 115] == X.toList) = true› (by decide) (hold.out _ _ k2.out (by repeat (first | exact Fr.refl _ _ | refine Fr.alloc ?_ _))))
      | (go_ret2
         exact hent.out [113, 117, 111, 116] 34 _ ‹([113, 117, 111, 116] == X.toList) = true› (by decide) (hold.out _ _ k2.out (by repeat (first | exact Fr.refl _ _ | refine Fr.alloc ?_ _))))
end
section
open Go.RowKit
theorem src1 (el : El) : srcs [el] = el.src := by simp [srcs]
theorem srcs_byl (l : List UInt8) : srcs (l.map .by) = l := by
 induction l with
 | nil => rfl
 | cons c l ih => rw [List.map_cons, srcs_cons, ih]; rfl
def ChEls (els : List El) (r : Nat) : Prop := (els = (u8 r).map .by /\ r ≠ 38) \/ ∃ el, els = [el] /\ RefEl el r
structure DataP (P : Nat) (s : ByteArray) (a : Nat) (q : PV) (vd : Int) (w : World) (e : Ending) (w' : World) : Prop where
 ex : ∃ (x : ByteArray) (ok : Bool), e = .returned (.tuple #[.string x, .bool ok]) /\ ((ok = false /\ FailP P s q w w') \/ (ok = true /\ ∃ els r rest, x = ⟨(u8 r).toArray⟩ /\ isCh r = true /\ ChEls els r /\ s.data.toList.drop a = srcs els ++ rest /\ PB w' P s (a + (srcs els).length) q vd /\ FrP P w w'))
theorem RefEl.len {el : El} {r : Nat} (h : RefEl el r) : 2 <= el.src.length := by
 rcases h with ⟨hex, ds, rfl, _⟩ | ⟨nm, rfl, _⟩
 ·simp [El.src]
 ·simp [El.src]
theorem data_do (P : Nat) (s : ByteArray) (a : Nat) (q : PV) (vd : Int) (w : World) (h : PB w P s a q vd) (hz : s.size <= 1000000) (ha : a < s.size) : Calls Tryz.prog 128 #[.pointer (some ⟨P, 0, none⟩)] w (DataP P s a q vd w) := by
 obtain ⟨c, t, hL⟩ : ∃ c t, s.data.toList.drop a = c :: t := by
  cases hl : s.data.toList.drop a with
  | nil => have := at_end hl; omega
  | cons c t => exact ⟨c, t, rfl⟩
 by_cases hc : c = 38
 ·subst hc
  have h76 := (has_yes h [38] t hL hz (by omega) (by decide)).mono (R' := fun e w' => e = .returned (.bool true) /\ Hid (PB w' P s (a + 1) q vd /\ FrP P w w')) (fun _ _ h => h)
  have hdr : s.data.toList.drop (a + 1) = t := (at_byte hL).2.2
  have h163 : ∀ w1, (PB w1 P s (a + 1) q vd /\ FrP P w w1) -> Calls Tryz.prog 163 #[.pointer (some ⟨P, 0, none⟩)] w1 fun e w' => ∃ (x : ByteArray) (ok : Bool), e = .returned (.tuple #[.string x, .bool ok]) /\ Hid ((ok = false /\ FailP P s q w w') \/ (ok = true /\ ∃ els r rest, x = ⟨(u8 r).toArray⟩ /\ isCh r = true /\ ChEls els r /\ s.data.toList.drop a = srcs els ++ rest /\ PB w' P s (a + (srcs els).length) q vd /\ FrP P w w')) := fun w1 hw => by
   refine (reference_do P s (a + 1) q vd w1 hw.1 hz (by omega)).mono ?_
   rintro e w' ⟨x, ok, rfl, hk⟩
   refine ⟨x, ok, rfl, hk.imp ?_ ?_⟩
   ·rintro ⟨h1, a', vd', h2, h3, h4, h5⟩
    exact ⟨h1, a', vd', h2, h3, h4, frp_tr hw.2 h5⟩
   ·rintro ⟨h1, el, r, rest, h2, h3, h4, h5, h6, h7⟩
    have := h4.len
    refine ⟨h1, [el], r, rest, h2, h3, .inr ⟨el, rfl, h4⟩, by rw [src1, hL, <- hdr]; exact h5, ?_, frp_tr hw.2 h7⟩
    rw [src1, show a + el.src.length = a + 1 + el.src.length - 1 by omega]
    exact h6
  have hch : ∀ (x : ByteArray) (w1 : World), ((true = false /\ FailP P s q w w1) \/ ((true : Bool) = true /\ ∃ els r rest, x = ⟨(u8 r).toArray⟩ /\ isCh r = true /\ ChEls els r /\ s.data.toList.drop a = srcs els ++ rest /\ PB w1 P s (a + (srcs els).length) q vd /\ FrP P w w1)) -> Calls Tryz.prog 23 #[.string x] w1 fun e w' => e = .returned (.bool true) /\ Hid (DataP P s a q vd w (.returned (.tuple #[.string x, .bool true])) w') := fun x w1 hx => by
   obtain ⟨_, els, r, rest, h1, h2, h3, h4, h5, h6⟩ := hx.resolve_left (fun h => by cases h.1)
   refine (chars_do x w1).mono ?_
   rintro e w' ⟨b, rfl, h7, h8⟩
   have := h8 r h2 (by rw [h1])
   subst this
   exact ⟨rfl, ⟨x, true, rfl, .inr ⟨rfl, els, r, rest, h1, h2, h3, h4, Blk.drw h5 h7, frp_tr h6 (frp_of h7)⟩⟩⟩
  replace h163 := zz h163
  replace hch := zz hch
  replace hL := zz hL
  replace hdr := zz hdr
  clear h
  go_enter Tryz.func128, Tryz.ntmps128
  go_upto_region 3 with (first
   | (go_at_call 76; refine h76.mono ?_; rintro e w1 ⟨rfl, k1⟩)
   | (go_at_call 163; refine (h163.out _ k1.out).mono ?_; rintro e w2 ⟨x, ok, rfl, k2⟩))
  cases ok with
  | false =>
   go_wp2
   go_ret2
   exact ⟨⟨x, false, rfl, .inl ⟨rfl, (k2.out.resolve_right (fun h => by cases h.1)).2⟩⟩⟩
  | true =>
   go_wp2_with (go_at_call 23; refine (hch.out _ _ k2.out).mono ?_; rintro e w3 ⟨rfl, k3⟩)
   go_ret2
   exact k3.out
 ·have hc' : (s.data.toList.drop a).take [(38 : UInt8)].length ≠ [38] := by rw [hL]; simp; exact hc
  have h76 := (has_no h [38] hc' hz (by omega) (by decide)).mono (R' := fun e w' => e = .returned (.bool false) /\ Hid (PB w' P s a q vd /\ FrP P w w') /\ (w'.cell? ⟨P, 0, none⟩ = some (.string s) /\ w'.cell? ⟨P, 1, none⟩ = some (.int .i64 a) /\ ∀ i, w'.frozen? ⟨P, i, none⟩ = false)) (fun e w' k => ⟨k.1, ⟨Blk.drw h k.2, frp_of k.2⟩, (PB.c (Blk.drw h k.2)).1, (PB.c (Blk.drw h k.2)).2.1, (Blk.drw h k.2).fz⟩)
  obtain ⟨r, n, hrn, hdc, hn4, hns, hsome⟩ := decode_at (s.extract a s.size)
  rw [ext_end] at hsome hrn
  rw [ext_size] at hns
  have hd : ∀ (w1 : World) (m : Nat), Calls Tryz.prog 45 #[.string (s.extract a s.size)] (w1.drewN m) fun e w' => e = .returned (.tuple #[.int .i64 (r : Nat), .int .i64 (n : Nat)]) /\ ∃ m', w' = w1.drewN m' := fun w1 => quietly (fun m => hdc (w1.drewN m))
  have i1 : (a : Int) <= (s.size : Int) := by omega
  have i2 : IntKind.i64.wrap ((a : Int) + (n : Int)) = ((a + n : Nat) : Int) := by rw [IntWalk.i64_in _ (by omega)]; omega
  obtain ⟨B, hB⟩ : ∃ B, B = a + n := ⟨_, rfl⟩
  rw [<- hB] at i2
  have i3 : IntKind.i64.wrap ((B : Int) - (n : Int)) = (a : Int) := by rw [IntWalk.i64_in _ (by omega)]; omega
  have i4 : (a : Int) <= (B : Int) := by omega
  have i5 : (B : Int) <= (s.size : Int) := by omega
  have i6 : (0 : Int) <= (a : Int) := by omega
  have hfl : ∀ (w1 : World), (PB w1 P s a q vd /\ FrP P w w1) -> Calls Tryz.prog 82 #[.pointer (some ⟨P, 0, none⟩), .int .i64 1] w1 fun e w' => e = .returned (.bool false) /\ Hid (FailP P s q w w') := fun w1 hw => by
   refine (spFail_do hw.1 1).mono ?_
   rintro e w' ⟨rfl, k1, k2⟩
   exact ⟨rfl, a, 1, by omega, by decide, k1, frp_tr hw.2 k2⟩
  have hchr : ∀ (w1 : World), (PB w1 P s a q vd /\ FrP P w w1) -> Calls Tryz.prog 46 #[.int .i64 (r : Nat)] w1 fun e w' => e = .returned (.bool (isCh r)) /\ Hid (PB w' P s a q vd /\ FrP P w w') /\ (w'.cell? ⟨P, 0, none⟩ = some (.string s) /\ w'.cell? ⟨P, 1, none⟩ = some (.int .i64 a) /\ ∀ i, w'.frozen? ⟨P, i, none⟩ = false) := fun w1 hw => by
   refine (spChar_do (r : Int) w1).mono ?_
   rintro e w' ⟨rfl, k⟩
   rw [chI_nat]
   have := Blk.drw hw.1 k
   exact ⟨rfl, ⟨this, frp_tr hw.2 (frp_of k)⟩, (PB.c this).1, (PB.c this).2.1, this.fz⟩
  have hwk : ∀ (w1 : World) (m : Nat), (PB w1 P s a q vd /\ FrP P w w1) -> (PB (w1.drewN m) P s a q vd /\ FrP P w (w1.drewN m)) := fun w1 m hw => ⟨hw.1.drewN m, frp_tr hw.2 (frp_of ⟨m, rfl⟩)⟩
  have hset : ∀ (w1 : World) (m : Nat), (PB w1 P s a q vd /\ FrP P w w1) -> (PB ((w1.setCell ⟨P, 1, none⟩ (.int .i64 B)).drewN m) P s B q vd /\ FrP P w ((w1.setCell ⟨P, 1, none⟩ (.int .i64 B)).drewN m)) := fun w1 m hw => ⟨(hw.1.set1 B).drewN m, frp_tr (frp_st hw.2 _ _) (frp_of ⟨m, rfl⟩)⟩
  have hpos : n ≠ 0 -> isCh r = true -> ∃ rest, (s.extract a B) = ⟨(u8 r).toArray⟩ /\ ChEls ((u8 r).map .by) r /\ s.data.toList.drop a = srcs ((u8 r).map .by) ++ rest /\ B = a + (srcs ((u8 r).map .by)).length := fun hn hcr => by
   obtain ⟨⟨rest, e1⟩, e2, e3⟩ := hsome hn
   rw [srcs_byl]
   refine ⟨rest, ?_, .inl ⟨rfl, ?_⟩, e1, by rw [hB, e2]⟩
   ·apply bytes_eq
    rw [ext_sub, hB, e2, List.take_add, List.drop_append_of_le_length (by simp; omega), List.drop_take_self, List.nil_append, e1, List.take_left]
   ·rintro rfl
    rw [hL] at e1
    have : u8 38 = [38] := by decide
    rw [this] at e1
    injection e1 with e1 _
    exact hc e1
  replace hd := zz hd
  replace hfl := zz hfl
  replace hchr := zz hchr
  replace hwk := zz hwk
  replace hset := zz hset
  replace hpos := zz hpos
  replace hsome := zz hsome
  replace hrn := zz hrn
  replace hL := zz hL
  replace hB := zz hB
  clear h hdc hc' hn4 hns
  go_enter Tryz.func128, Tryz.ntmps128
  by_cases hn : n = 0
  ·have e0 : ((n : Int) == 0) = true := by rw [beq_iff_eq]; omega
   replace hn := zz hn
   go_wp2_with (go_at_call 76; refine h76.mono ?_; rintro e w1 ⟨rfl, k1, c0, c1, cf⟩)
   go_quiet (first | (go_at_call 45; exact hd.out _ _))
   go_wp2_with (go_at_call 82; refine (hfl.out _ (hwk.out _ _ k1.out)).mono ?_; rintro e w2 ⟨rfl, k2⟩)
   go_ret2
   exact ⟨⟨⟨#[]⟩, false, rfl, .inl ⟨rfl, k2.out⟩⟩⟩
  ·have e0 : ((n : Int) == 0) = false := by rw [beq_eq_false_iff_ne]; omega
   cases hcr : isCh r
   ·rw [hcr] at hchr
    replace hn := zz hn
    go_wp2_with (go_at_call 76; refine h76.mono ?_; rintro e w1 ⟨rfl, k1, c0, c1, cf⟩)
    go_quiet (first | (go_at_call 45; exact hd.out _ _))
    go_wp2_with (first
     | (go_at_call 46; refine (hchr.out _ (hwk.out _ _ k1.out)).mono ?_; rintro e w3 ⟨rfl, k3, _⟩)
     | (go_at_call 82; refine (hfl.out _ k3.out).mono ?_; rintro e w2 ⟨rfl, k2⟩))
    go_ret2
    exact ⟨⟨⟨#[]⟩, false, rfl, .inl ⟨rfl, k2.out⟩⟩⟩
   ·rw [hcr] at hchr
    obtain ⟨rest, p1, p2, p3, p4⟩ := hpos.out hn hcr
    replace hn := zz hn
    replace p1 := zz p1
    replace p2 := zz p2
    replace p3 := zz p3
    replace p4 := zz p4
    go_wp2_with (go_at_call 76; refine h76.mono ?_; rintro e w1 ⟨rfl, k1, c0, c1, cf⟩)
    go_quiet (first | (go_at_call 45; exact hd.out _ _))
    go_wp2_with (go_at_call 46; refine (hchr.out _ (hwk.out _ _ k1.out)).mono ?_; rintro e w3 ⟨rfl, k3, d0, d1, df⟩)
    go_quiet (fail)
    go_wp2
    go_ret2
    refine ⟨⟨s.extract a B, true, rfl, .inr ⟨rfl, _, r, rest, p1.out, hcr, p2.out, p3.out, ?_⟩⟩⟩
    rw [<- p4.out]
    exact hset.out _ _ k3.out
end
section
open Go.RowKit
def SP (P : Nat) (s : ByteArray) (q : PV) (vd : Int) (w : World) (a : Nat) (w1 : World) : Prop := PB w1 P s a q vd /\ FrP P w w1
def SPc (P : Nat) (s : ByteArray) (a : Nat) (w1 : World) : Prop := w1.cell? ⟨P, 0, none⟩ = some (.string s) /\ w1.cell? ⟨P, 1, none⟩ = some (.int .i64 a) /\ ∀ i, w1.frozen? ⟨P, i, none⟩ = false
section
variable {P : Nat} {s : ByteArray} {q : PV} {vd : Int} {w : World} {a : Nat} {w1 : World} (h : SP P s q vd w a w1)
theorem SP.start (h : PB w P s a q vd) : SP P s q vd w a w := ⟨h, Fr.refl _ w⟩
include h
theorem SP.c : SPc P s a w1 := ⟨(PB.c h.1).1, (PB.c h.1).2.1, h.1.fz⟩
theorem SP.drewN (n : Nat) : SP P s q vd w a (w1.drewN n) := ⟨h.1.drewN n, frp_tr h.2 (frp_of ⟨n, rfl⟩)⟩
theorem SP.drw {w2 : World} (d : Drw w1 w2) : SP P s q vd w a w2 := ⟨Blk.drw h.1 d, frp_tr h.2 (frp_of d)⟩
theorem SP.old {w2 : World} (d : Old w1 w2) : SP P s q vd w a w2 := ⟨h.1.keep d (fun h => h), h.2.old d⟩
theorem SP.set1 (b : Nat) : SP P s q vd w b (w1.setCell ⟨P, 1, none⟩ (.int .i64 b)) := ⟨PB.set1 h.1 b, frp_st h.2 _ _⟩
theorem SP.fail (v : Int) (hv : v ≠ 0) (ha : a <= s.size) : Calls Tryz.prog 82 #[.pointer (some ⟨P, 0, none⟩), .int .i64 v] w1 fun e w' => e = .returned (.bool false) /\ Hid (FailP P s q w w') := by
 refine (spFail_do h.1 v).mono ?_
 rintro e w' ⟨rfl, k1, k2⟩
 exact ⟨rfl, a, v, ha, hv, k1, frp_tr h.2 k2⟩
variable (hz : s.size <= 1000000) (ha : a <= s.size)
include hz ha
theorem SP.hasY (lit rest : List UInt8) (hl : s.data.toList.drop a = lit ++ rest) (hlit : lit.length <= 1000) : Calls Tryz.prog 76 #[.pointer (some ⟨P, 0, none⟩), .string ⟨lit.toArray⟩] w1 fun e w' => e = .returned (.bool true) /\ SPc P s (a + lit.length) w' /\ Hid (SP P s q vd w (a + lit.length) w') := by
 refine (has_yes h.1 lit rest hl hz ha hlit).mono ?_
 rintro e w' ⟨rfl, k1, k2⟩
 have k : SP P s q vd w (a + lit.length) w' := ⟨k1, frp_tr h.2 k2⟩
 exact ⟨rfl, k.c, k⟩
theorem SP.hasN (lit : List UInt8) (hl : (s.data.toList.drop a).take lit.length ≠ lit) (hlit : lit.length <= 1000) : Calls Tryz.prog 76 #[.pointer (some ⟨P, 0, none⟩), .string ⟨lit.toArray⟩] w1 fun e w' => e = .returned (.bool false) /\ SPc P s a w' /\ Hid (SP P s q vd w a w') := by
 refine (has_no h.1 lit hl hz ha hlit).mono ?_
 rintro e w' ⟨rfl, k1⟩
 have k := h.drw k1
 exact ⟨rfl, k.c, k⟩
theorem SP.blanks : Calls Tryz.prog 131 #[.pointer (some ⟨P, 0, none⟩)] w1 fun e w' => ∃ b : Bool, e = .returned (.bool b) /\ Hid (∃ ws rest, b = !ws.isEmpty /\ s.data.toList.drop a = ws ++ rest /\ (∀ c ∈ ws, isWs c = true) /\ (∀ c t, rest = c :: t -> isWs c = false) /\ SP P s q vd w (a + ws.length) w') := by
 refine (blanks_do h.1 hz ha).mono ?_
 rintro e w' ⟨ws, rest, rfl, h1, h2, h3, h4, h5⟩
 exact ⟨_, rfl, ws, rest, rfl, h1, h2, h3, h4, frp_tr h.2 h5⟩
theorem SP.word : Calls Tryz.prog 133 #[.pointer (some ⟨P, 0, none⟩)] w1 fun e w' => ∃ x : ByteArray, e = .returned (.string x) /\ Hid (∃ rest, s.data.toList.drop a = x.data.toList ++ rest /\ SP P s q vd w (a + x.size) w') := by
 refine (word_do h.1 hz ha).mono ?_
 rintro e w' ⟨x, rfl, rest, h1, h2, h3⟩
 exact ⟨x, rfl, rest, h1, h2, frp_tr h.2 h3⟩
omit ha in
theorem SP.data (ha : a < s.size) : Calls Tryz.prog 128 #[.pointer (some ⟨P, 0, none⟩)] w1 fun e w' => ∃ (x : ByteArray) (ok : Bool), e = .returned (.tuple #[.string x, .bool ok]) /\ Hid ((ok = false /\ FailP P s q w w') \/ (ok = true /\ ∃ els r rest, x = ⟨(u8 r).toArray⟩ /\ isCh r = true /\ ChEls els r /\ s.data.toList.drop a = srcs els ++ rest /\ SP P s q vd w (a + (srcs els).length) w')) := by
 refine (data_do P s a q vd w1 h.1 hz ha).mono ?_
 rintro e w' ⟨x, ok, rfl, hk⟩
 refine ⟨x, ok, rfl, hk.imp ?_ ?_⟩
 ·rintro ⟨h1, a', vd', h2, h3, h4, h5⟩
  exact ⟨h1, a', vd', h2, h3, h4, frp_tr h.2 h5⟩
 ·rintro ⟨h1, els, r, rest, h2, h3, h4, h5, h6, h7⟩
  exact ⟨h1, els, r, rest, h2, h3, h4, h5, h6, frp_tr h.2 h7⟩
omit hz ha in
theorem SP.endY (ha : s.size <= a) : Calls Tryz.prog 42 #[.pointer (some ⟨P, 0, none⟩)] w1 fun e w' => e = .returned (.bool true) /\ Drw w1 w' := ended_yes h.1 ha
omit hz ha in
theorem SP.endN (ha : a < s.size) : Calls Tryz.prog 42 #[.pointer (some ⟨P, 0, none⟩)] w1 fun e w' => e = .returned (.bool false) /\ Drw w1 w' := ended_no h.1 ha
end
theorem SP.from {P : Nat} {s : ByteArray} {q : PV} {vd : Int} {w w0 : World} {a : Nat} {w1 : World} (h : SP P s q vd w a w1) (f : FrP P w0 w) : SP P s q vd w0 a w1 := ⟨h.1, frp_tr f h.2⟩
structure NameP (P : Nat) (s : ByteArray) (a : Nat) (q : PV) (vd : Int) (w : World) (e : Ending) (w' : World) : Prop where
 ex : ∃ (p l : ByteArray) (ok : Bool), e = .returned (.tuple #[.string p, .string l, .bool ok]) /\ p.size <= 1000000 /\ l.size <= 1000000 /\ ((ok = false /\ FailP P s q w w') \/ (ok = true /\ ∃ a', a <= a' /\ a' <= s.size /\ SP P s q vd w a' w' /\ (p.size = 0 -> p = ⟨#[]⟩ /\ ∃ nm, NameOk nm /\ l = ⟨(nb nm).toArray⟩ /\ s.data.toList.drop a = nb nm ++ s.data.toList.drop a' /\ a' = a + (nb nm).length)))
theorem name2_do (P : Nat) (s : ByteArray) (a : Nat) (q : PV) (vd : Int) (w : World) (h : PB w P s a q vd) (hz : s.size <= 1000000) (ha : a <= s.size) : Calls Tryz.prog 130 #[.pointer (some ⟨P, 0, none⟩)] w (NameP P s a q vd w) := by
 have hs := SP.start h
 have hwd := (hs.word hz ha).mono (R' := fun e w' => ∃ x : ByteArray, e = .returned (.string x) /\ Hid (x.size <= 1000000 /\ (∃ rest, s.data.toList.drop a = x.data.toList ++ rest) /\ a + x.size <= s.size /\ SP P s q vd w (a + x.size) w')) (by
  rintro e w' ⟨x, rfl, hx⟩
  obtain ⟨rest, h1, h2⟩ := hx.out
  have := at_le h1 ha
  rw [<- Lib.size_eq] at this
  exact ⟨x, rfl, by omega, ⟨rest, h1⟩, by omega, h2⟩)
 have hnk : ∀ (x : ByteArray) (w1 : World), (x.size <= 1000000 /\ (∃ rest, s.data.toList.drop a = x.data.toList ++ rest) /\ a + x.size <= s.size /\ SP P s q vd w (a + x.size) w1) -> Calls Tryz.prog 47 #[.string x] w1 fun e w' => ∃ k : Nat, e = .returned (.int .i64 k) /\ Hid (x.size <= 1000000 /\ (∃ rest, s.data.toList.drop a = x.data.toList ++ rest) /\ a + x.size <= s.size /\ SP P s q vd w (a + x.size) w') := fun x w1 hx => by
  refine (nameKind_do x w1 hx.1).mono ?_
  rintro e w' ⟨k, rfl, h1, _⟩
  exact ⟨k, rfl, hx.1, hx.2.1, hx.2.2.1, hx.2.2.2.drw h1⟩
 have hsp : ∀ (x : ByteArray) (w1 : World), (x.size <= 1000000 /\ (∃ rest, s.data.toList.drop a = x.data.toList ++ rest) /\ a + x.size <= s.size /\ SP P s q vd w (a + x.size) w1) -> Calls Tryz.prog 164 #[.string x] w1 fun e w' => ∃ (p l : ByteArray) (ok : Bool), e = .returned (.tuple #[.string p, .string l, .bool ok]) /\ p.size <= 1000000 /\ l.size <= 1000000 /\ Hid ((∃ rest, s.data.toList.drop a = x.data.toList ++ rest) /\ a + x.size <= s.size /\ SP P s q vd w (a + x.size) w' /\ (ok = true -> p.size = 0 -> p = ⟨#[]⟩ /\ l = x)) := fun x w1 hx => by
  refine (split_do x w1 hx.1).mono ?_
  rintro e w' ⟨p, l, ok, rfl, h1, h2, h3, h4, h5⟩
  have := hx.1
  refine ⟨p, l, ok, rfl, by omega, by omega, hx.2.1, hx.2.2.1, hx.2.2.2.drw h1, fun hok hp => ?_⟩
  by_cases hc : (58 : UInt8) ∈ x.data.toList
  ·exact absurd hp (h5 hc hok)
  ·obtain ⟨e1, e2, _⟩ := h4 hc
   exact ⟨e1, e2⟩
 have hin : ∀ (A : Nat) (x : ByteArray) (w1 : World), x.size <= 1000000 -> SP P s q vd w A w1 -> Calls Tryz.prog 26 #[.string x] w1 fun e w' => ∃ b : Bool, e = .returned (.bool b) /\ Hid (SP P s q vd w A w' /\ (b = true -> ∃ nm, NameOk nm /\ x.data.toList = nb nm)) := fun A x w1 hx hw => by
  refine (isNameS_do x w1 hx).mono ?_
  rintro e w' ⟨b, rfl, h1, h2⟩
  exact ⟨b, rfl, hw.drw h1, h2⟩
 have hfl : ∀ (A : Nat) (v : Int) (w1 : World), v ≠ 0 -> A <= s.size -> SP P s q vd w A w1 -> Calls Tryz.prog 82 #[.pointer (some ⟨P, 0, none⟩), .int .i64 v] w1 fun e w' => e = .returned (.bool false) /\ Hid (FailP P s q w w') := fun A v w1 hv hA hw => hw.fail v hv hA
 replace hwd := zz hwd
 replace hnk := zz hnk
 replace hsp := zz hsp
 replace hin := zz hin
 replace hfl := zz hfl
 clear h hs
 go_enter Tryz.func130, Tryz.ntmps130
 go_wp2_with (first
  | (go_at_call 133; refine hwd.out.mono ?_; rintro e w1 ⟨x, rfl, k1⟩; have hA := k1.out.2.2.1)
  | (go_at_call 47; refine (hnk.out _ _ k1.out).mono ?_; rintro e w2 ⟨k, rfl, k2⟩; clear k1)
  | (go_at_call 164; refine (hsp.out _ _ k2.out).mono ?_; rintro e w3 ⟨p, l, ok, rfl, hp, hl, k3⟩; clear k2)
  | (go_at_call 82; refine (hfl.out (a + x.size) _ _ (by decide) hA k5.out.1).mono ?_; rintro e w6 ⟨rfl, k6⟩)
  | (go_at_call 82; refine (hfl.out (a + x.size) _ _ (by decide) hA k4.out.1).mono ?_; rintro e w6 ⟨rfl, k6⟩)
  | (go_at_call 82; refine (hfl.out (a + x.size) _ _ (by decide) hA k3.out.2.2.1).mono ?_; rintro e w6 ⟨rfl, k6⟩)
  | (go_at_call 82; refine (hfl.out (a + x.size) _ _ (by decide) hA k2.out.2.2.2).mono ?_; rintro e w6 ⟨rfl, k6⟩)
  | (go_at_call 26; refine (hin.out _ l _ hl k3.out.2.2.1).mono ?_; rintro e w4 ⟨b, rfl, k4⟩; have k3i := zz (And.intro k3.out.1 k3.out.2.2.2); clear k3)
  | (go_at_call 26; refine (hin.out _ p _ hp k4.out.1).mono ?_; rintro e w5 ⟨b5, rfl, k5⟩; have k4i := zz k4.out.2; clear k4))
 all_goals first
  | (go_ret3
     exact ⟨⟨⟨#[]⟩, ⟨#[]⟩, false, rfl, Nat.zero_le _, Nat.zero_le _, .inl ⟨rfl, k6.out⟩⟩⟩)
  | (go_ret3
     refine ⟨⟨p, l, true, rfl, hp, hl, .inr ⟨rfl, a + x.size, Nat.le_add_right _ _, hA, k5.out.1, fun h0 => ?_⟩⟩⟩
     exact absurd (by rw [Go.ByteArray.toList_eq]; exact list_nil h0) ‹¬p.toList = []›)
  | (go_ret3
     refine ⟨⟨p, l, true, rfl, hp, hl, .inr ⟨rfl, a + x.size, Nat.le_add_right _ _, hA, k4.out.1, fun h0 => ?_⟩⟩⟩
     obtain ⟨e1, e2⟩ := k3i.out.2 ‹ok = true› h0
     obtain ⟨nm, n1, n2⟩ := k4.out.2 ‹b = true›
     obtain ⟨rest, e3⟩ := k3i.out.1
     have e4 : x.size = (nb nm).length := by rw [Lib.size_eq, <- e2, n2]
     refine ⟨e1, nm, n1, bytes_eq n2, ?_, by rw [e4]⟩
     have e5 := at_go e3
     rw [<- Lib.size_eq] at e5
     rw [e5, <- n2, e2]
     exact e3)
end
end Go.Proofs.YtepbbahdhhjibaaGreatDoor
