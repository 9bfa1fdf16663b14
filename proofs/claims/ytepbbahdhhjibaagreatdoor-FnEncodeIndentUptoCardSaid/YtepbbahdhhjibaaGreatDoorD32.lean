/- own text -/
import Derived.Test.YtepbbahdhhjibaaGreatDoorD31
namespace Go.Proofs.YtepbbahdhhjibaaGreatDoor
set_option linter.unusedSimpArgs false
set_option linter.unusedVariables false
set_option maxHeartbeats 2000000
set_option maxRecDepth 100000
set_option linter.unusedSectionVars false
section
open Go.RowKit
def NmS (l : List UInt8) : Prop := ∃ r t, l = nb (r :: t) /\ nSt r = true /\ ∀ x ∈ t, nCt x = true
theorem nameKind_do (s : ByteArray) (w : World) (hs : s.size <= 549755813888) : Calls Tryz.prog 47 #[.string s] w fun e w' => ∃ k : Nat, e = .returned (.int .i64 k) /\ Drw w w' /\ k <= 2 /\ (k = 0 -> NmS s.data.toList) := by
 have hstart : ∃ k0 : Nat, k0 <= 1 /\ (k0 = 0 -> s.size ≠ 0) /\ ((s.toList.isEmpty = true /\ k0 = 1) \/ (s.toList.isEmpty = false /\ k0 = 0)) := by
  by_cases h : s.size = 0
  ·exact ⟨1, by omega, fun h => absurd h (by omega), .inl ⟨toList_nil h, rfl⟩⟩
  ·exact ⟨0, by omega, fun _ => h, .inr ⟨toList_ne (by omega), rfl⟩⟩
 obtain ⟨k0, hk1, hk0, hst⟩ := hstart
 have hk0' := zz hk0
 clear hk0
 rcases hst with ⟨he, rfl⟩ | ⟨he, rfl⟩
 all_goals (
  go_enter Tryz.func47, Tryz.ntmps47
  go_wp2
  go_loopg [3, 4] s.size (fun m u3 u4 wr => ∃ (k : Nat) (rs : List Nat) (rest : List UInt8), u3 = .int .i64 k /\ u4 = .int .i64 (nb rs).length /\ s.data.toList = nb rs ++ rest /\ rest.length = m /\ k <= 1 /\ (k = 0 -> (∀ x ∈ rs, nCt x = true) /\ (∀ r t, rs = r :: t -> nSt r = true) /\ s.size ≠ 0) /\ Drw w wr)
  case atStart => exact ⟨_, [], s.data.toList, rfl, rfl, rfl, (Lib.size_eq s).symm, by omega, fun h => ⟨fun x hx => (by cases hx), fun r t e => (by cases e), (by first | exact hk0'.out h | exact hk0'.out trivial)⟩, Drw.refl w⟩
  case round =>
   obtain ⟨k, rs, rest, rfl, rfl, hL, hm, hk, hkk, hD⟩ := hrel
   have hsz : s.size = (nb rs).length + rest.length := by rw [Lib.size_eq, hL, List.length_append]
   obtain ⟨I, hI⟩ : ∃ I, I = (nb rs).length := ⟨_, rfl⟩
   rw [<- hI] at hsz ⊢
   replace hD := zz hD
   replace hkk := zz hkk
   clear hk1 hk0'
   have hirs : I = 0 ↔ rs = [] := by
    rw [hI]
    constructor
    ·intro h
     cases rs with
     | nil => rfl
     | cons a b => rw [nb_cons, List.length_append] at h; have := (u8_len a).1; omega
    ·rintro rfl; rfl
   by_cases hr0 : rest = []
   ·have i1 : ¬ ((I : Int) < (s.size : Int)) := by rw [hr0] at hsz; simp at hsz; omega
    have hfin : k = 0 -> NmS s.data.toList := fun h => by
     obtain ⟨h1, h2, h3⟩ := hkk.out h
     rw [hr0, List.append_nil] at hL
     cases rs with
     | nil =>
      exfalso
      rw [hr0] at hsz
      have h4 : I = 0 := hI
      simp at hsz; omega
     | cons a b => exact ⟨a, b, hL, h2 a b rfl, fun x hx => h1 x (by simp [hx])⟩
    replace hfin := zz hfin
    clear hL hm hI hr0 hsz hirs
    go_wp2
    go_ret
    exact ⟨_, rfl, hD.out, by omega, hfin.out⟩
   ·have hrl : 0 < rest.length := by
     cases rest with
     | nil => exact absurd rfl hr0
     | cons a b => simp
    have i1 : (I : Int) < (s.size : Int) := by omega
    have i2 : (I : Int) <= (s.size : Int) := by omega
    have i3 : (0 : Int) <= (I : Int) := by omega
    have hex : (s.extract I s.size).data.toList = rest := by rw [ext_end, hL, hI, List.drop_left]
    have hes : (s.extract I s.size).size = rest.length := by rw [Lib.size_eq, hex]
    obtain ⟨r, n, hrn, hdc, hn4, hns, hsome⟩ := decode_at (s.extract I s.size)
    rw [hex] at hsome
    rw [hes] at hns
    have hd := fun (w1 : World) (hw : Drw wr w1) => (hdc w1).mono (R' := fun e w' => e = .returned (.tuple #[.int .i64 (r : Nat), .int .i64 (n : Nat)]) /\ Hid (Drw wr w')) (fun _ _ h => ⟨h.1, hw.trans h.2⟩)
    have hb := fun (w1 : World) (hw : Drw wr w1) => (spBegins_do r w1).mono (R' := fun e w' => e = .returned (.bool (nSt r)) /\ Hid (Drw wr w')) (fun _ _ h => ⟨h.1, hw.trans h.2⟩)
    have hc := fun (w1 : World) (hw : Drw wr w1) => (spCont_do r w1).mono (R' := fun e w' => e = .returned (.bool (nCt r)) /\ Hid (Drw wr w')) (fun _ _ h => ⟨h.1, hw.trans h.2⟩)
    have i4 : IntKind.i64.wrap ((I : Int) + (n : Int)) = ((I + n : Nat) : Int) := by rw [IntWalk.i64_in _ (by omega)]; omega
    have hnext : n ≠ 0 -> ∃ rest', s.data.toList = nb (rs ++ [r]) ++ rest' /\ I + n = (nb (rs ++ [r])).length /\ rest'.length = s.size - (I + n) := fun hn => by
     obtain ⟨⟨rest', h1⟩, h2, _⟩ := hsome hn
     have e : nb (rs ++ [r]) = nb rs ++ u8 r := by rw [nb_append]; simp [nb]
     refine ⟨rest', by rw [e, hL, h1, List.append_assoc], by rw [e, List.length_append, <- hI, h2], ?_⟩
     have := congrArg List.length h1
     rw [List.length_append] at this
     omega
    have hm' : s.size - (I + n) + n = gk := by omega
    replace hd := zz hd
    replace hnext := zz hnext
    replace hrn := zz hrn
    replace hm' := zz hm'
    replace hL := zz hL
    replace hm := zz hm
    replace hI := zz hI
    clear hdc hex hes hsome hr0 hsz hrl hn4 hns
    by_cases hn : n = 0
    ·have e0 : ((n : Int) == 0) = true := by rw [beq_iff_eq]; omega
     replace hn := zz hn
     clear hirs
     go_wp2_with (first | (go_at_call 45; refine (hd.out _ (Drw.refl _)).mono ?_; rintro e w1 ⟨rfl, k1⟩))
     go_ret
     exact ⟨2, rfl, hD.out.trans k1.out, by omega, fun h => absurd h (by omega)⟩
    ·have e0 : ((n : Int) == 0) = false := by rw [beq_eq_false_iff_ne]; omega
     obtain ⟨rest', hn1, hn2, hn3⟩ := hnext.out hn
     replace hn1 := zz hn1
     replace hn2 := zz hn2
     replace hn3 := zz hn3
     replace hn := zz hn
     cases hct : nCt r
     ·rw [hct] at hc
      replace hc := zz hc
      by_cases h128 : 128 <= r
      ·have e1 : (128 : Int) <= (r : Int) := by omega
       clear hirs hb
       go_wp2_with (first | (go_at_call 45; refine (hd.out _ (Drw.refl _)).mono ?_; rintro e w1 ⟨rfl, k1⟩) | (go_at_call 86; refine (hc.out _ (by first | exact k2.out | exact k1.out)).mono ?_; rintro e w2 ⟨rfl, k2⟩))
       go_ret
       exact ⟨2, rfl, hD.out.trans k2.out, by omega, fun h => absurd h (by omega)⟩
      ·have e1 : ¬ (128 : Int) <= (r : Int) := by omega
       clear hirs hb
       go_wp2_with (first | (go_at_call 45; refine (hd.out _ (Drw.refl _)).mono ?_; rintro e w1 ⟨rfl, k1⟩) | (go_at_call 86; refine (hc.out _ (by first | exact k2.out | exact k1.out)).mono ?_; rintro e w2 ⟨rfl, k2⟩))
       go_roundg (s.size - (I + n))
       case measure => have := hm'.out; have := hn.out; omega
       case rel => exact ⟨1, rs ++ [r], rest', rfl, congrArg (Value.int .i64) (by have := hn2.out; omega), hn1.out, hn3.out, by omega, fun h => absurd h (by omega), hD.out.trans k2.out⟩
     ·rw [hct] at hc
      replace hc := zz hc
      have hkeep : k = 0 -> (rs = [] -> nSt r = true) -> (∀ x ∈ rs ++ [r], nCt x = true) /\ (∀ a t, rs ++ [r] = a :: t -> nSt a = true) /\ s.size ≠ 0 := fun h hb => by
       obtain ⟨h1, h2, h3⟩ := hkk.out h
       refine ⟨fun x hx => ?_, fun a t e => ?_, h3⟩
       ·rcases List.mem_append.1 hx with hx | hx
        ·exact h1 x hx
        ·obtain rfl : x = r := by simpa using hx
         exact hct
       ·cases rs with
        | nil => injection e with e1 _; subst e1; exact hb rfl
        | cons y z => injection e with e1 _; subst e1; exact h2 y z rfl
      replace hkeep := zz hkeep
      have hr256 := nCt_lt hct
      by_cases hi0 : I = 0
      ·have e2 : ((I : Int) == 0) = true := by rw [beq_iff_eq]; omega
       have hrs := hirs.1 hi0
       replace hrs := zz hrs
       replace hi0 := zz hi0
       clear hirs
       cases hst : nSt r
       ·rw [hst] at hb
        replace hb := zz hb
        by_cases h128 : 128 <= r
        all_goals (
         have e1 := h128
         go_wp2_with (first | (go_at_call 45; refine (hd.out _ (Drw.refl _)).mono ?_; rintro e w1 ⟨rfl, k1⟩) | (go_at_call 86; refine (hc.out _ (by first | exact k2.out | exact k1.out)).mono ?_; rintro e w2 ⟨rfl, k2⟩) | (go_at_call 87; refine (hb.out _ k2.out).mono ?_; rintro e w3 ⟨rfl, k3⟩))
         go_roundg (s.size - (I + n))
         case measure => have := hm'.out; have := hn.out; omega
         case rel => exact ⟨1, rs ++ [r], rest', rfl, congrArg (Value.int .i64) (by have := hn2.out; omega), hn1.out, hn3.out, by omega, fun h => absurd h (by omega), hD.out.trans k3.out⟩)
       ·rw [hst] at hb
        replace hb := zz hb
        by_cases h128 : 128 <= r
        all_goals (
         have e1 := h128
         go_wp2_with (first | (go_at_call 45; refine (hd.out _ (Drw.refl _)).mono ?_; rintro e w1 ⟨rfl, k1⟩) | (go_at_call 86; refine (hc.out _ (by first | exact k2.out | exact k1.out)).mono ?_; rintro e w2 ⟨rfl, k2⟩) | (go_at_call 87; refine (hb.out _ k2.out).mono ?_; rintro e w3 ⟨rfl, k3⟩))
         go_roundg (s.size - (I + n))
         case measure => have := hm'.out; have := hn.out; omega
         case rel => exact ⟨k, rs ++ [r], rest', rfl, congrArg (Value.int .i64) (by have := hn2.out; omega), hn1.out, hn3.out, by omega, fun h => hkeep.out h (fun _ => hst), hD.out.trans k3.out⟩)
      ·have e2 : ((I : Int) == 0) = false := by rw [beq_eq_false_iff_ne]; omega
       have hrs : rs ≠ [] := fun h => hi0 (hirs.2 h)
       replace hrs := zz hrs
       replace hi0 := zz hi0
       clear hirs hb
       by_cases h128 : 128 <= r
       all_goals (
        have e1 := h128
        go_wp2_with (first | (go_at_call 45; refine (hd.out _ (Drw.refl _)).mono ?_; rintro e w1 ⟨rfl, k1⟩) | (go_at_call 86; refine (hc.out _ (by first | exact k2.out | exact k1.out)).mono ?_; rintro e w2 ⟨rfl, k2⟩))
        go_roundg (s.size - (I + n))
        case measure => have := hm'.out; have := hn.out; omega
        case rel => exact ⟨k, rs ++ [r], rest', rfl, congrArg (Value.int .i64) (by have := hn2.out; omega), hn1.out, hn3.out, by omega, fun h => hkeep.out h (fun h => absurd h hrs.out), hD.out.trans k2.out⟩))
end
section
open Go.RowKit
theorem nb_mem58 {l : List Nat} (h : 58 ∈ l) : (58 : UInt8) ∈ nb l := by
 unfold nb
 exact List.mem_flatMap.2 ⟨58, h, by decide⟩
theorem NmS.ok {l : List UInt8} (h : NmS l) (hc : (58 : UInt8) ∉ l) : ∃ nm, NameOk nm /\ l = nb nm := by
 obtain ⟨r, t, rfl, h1, h2⟩ := h
 exact ⟨r :: t, ⟨⟨r, t, rfl, h1, h2⟩, fun h => hc (nb_mem58 h)⟩, rfl⟩
theorem mem_take_succ {l : List UInt8} {i : Nat} (h : i < l.length) {c : UInt8} (h1 : c ∉ l.take i) (h2 : (l.getD i 0) ≠ c) : c ∉ l.take (i + 1) := by
 intro hm
 rw [List.take_succ_eq_append_getElem h] at hm
 rcases List.mem_append.1 hm with hm | hm
 ·exact h1 hm
 ·have : c = l[i] := by simpa using hm
  apply h2
  rw [List.getD_eq_getElem?_getD, List.getElem?_eq_getElem h, this]; rfl
theorem isNameS_do (s : ByteArray) (w : World) (hs : s.size <= 549755813888) : Calls Tryz.prog 26 #[.string s] w fun e w' => ∃ b, e = .returned (.bool b) /\ Drw w w' /\ (b = true -> ∃ nm, NameOk nm /\ s.data.toList = nb nm) := by
 have hnk := fun w1 => (nameKind_do s w1 hs).mono (R' := fun e w' => ∃ k : Nat, e = .returned (.int .i64 k) /\ Hid (Drw w1 w' /\ k <= 2 /\ (k = 0 -> NmS s.data.toList))) (fun _ _ h => h)
 replace hnk := zz hnk
 have hsl : s.size = s.data.toList.length := Lib.size_eq s
 replace hsl := zz hsl
 go_enter Tryz.func26, Tryz.ntmps26
 go_wp2
 go_loopg [6] s.size (fun m u6 wr => ∃ i : Nat, u6 = .int .i64 i /\ i + m = s.size /\ (58 : UInt8) ∉ s.data.toList.take i /\ Drw w wr)
 case atStart => exact ⟨0, rfl, by omega, by simp, Drw.refl w⟩
 case round =>
  obtain ⟨i, rfl, hi, hno, hD⟩ := hrel
  replace hD := zz hD
  replace hno := zz hno
  by_cases hlt : i < s.size
  ·have i1 : (i : Int) < (s.size : Int) := by omega
   have i2 : IntKind.i64.wrap ((i : Int) + 1) = ((i + 1 : Nat) : Int) := by rw [IntWalk.i64_in _ (by omega)]; omega
   have hc := get_data s i
   obtain ⟨c, hcc⟩ : ∃ c, c = s.data.toList.getD i 0 := ⟨_, rfl⟩
   rw [<- hcc] at hc
   obtain ⟨n, hn⟩ : ∃ n, n = c.toNat := ⟨_, rfl⟩
   rw [<- hn] at hc
   replace hcc := zz hcc
   replace hi := zz hi
   by_cases h58 : n = 58
   ·have e0 : ((n : Int) == 58) = true := by rw [beq_iff_eq]; omega
    replace h58 := zz h58
    replace hn := zz hn
    go_wp2
    go_ret
    exact ⟨false, rfl, hD.out, fun h => absurd h (by decide)⟩
   ·have e0 : ((n : Int) == 58) = false := by rw [beq_eq_false_iff_ne]; omega
    have hne : c ≠ 58 := by rintro rfl; exact h58 hn
    replace h58 := zz h58
    replace hn := zz hn
    replace hne := zz hne
    go_wp2
    go_roundg (s.size - (i + 1))
    case measure => have := hi.out; omega
    case rel => exact ⟨i + 1, rfl, by have := hi.out; omega, mem_take_succ (by rw [<- hsl.out]; exact hlt) hno.out (by rw [<- hcc.out]; exact hne.out), hD.out⟩
  ·have i1 : ¬ (i : Int) < (s.size : Int) := by omega
   have hno2 : (58 : UInt8) ∉ s.data.toList := by
    have := hno.out
    rwa [List.take_of_length_le (by rw [<- hsl.out]; omega)] at this
   replace hno2 := zz hno2
   clear hi hlt
   go_wp2_with (go_at_call 47; refine (hnk.out _).mono ?_; rintro e w1 ⟨k, rfl, k1⟩)
   go_ret
   refine ⟨_, rfl, hD.out.trans k1.out.1, fun h => ?_⟩
   have hk0 : k = 0 := by
    have : ((k : Int) == 0) = true := h
    rw [beq_iff_eq] at this; omega
   exact (k1.out.2.2 hk0).ok hno2.out
structure SplitP (s : ByteArray) (w : World) (e : Ending) (w' : World) : Prop where
 ex : ∃ (p l : ByteArray) (ok : Bool), e = .returned (.tuple #[.string p, .string l, .bool ok]) /\ Drw w w' /\ p.size <= s.size /\ l.size <= s.size /\ ((58 : UInt8) ∉ s.data.toList -> p = ⟨#[]⟩ /\ l = s /\ ok = true) /\ ((58 : UInt8) ∈ s.data.toList -> ok = true -> p.size ≠ 0)
theorem split_do (s : ByteArray) (w : World) (hs : s.size <= 549755813888) : Calls Tryz.prog 164 #[.string s] w (SplitP s w) := by
 have hsl : s.size = s.data.toList.length := Lib.size_eq s
 replace hsl := zz hsl
 go_enter Tryz.func164, Tryz.ntmps164
 go_wp2
 go_loopg [5, 9] s.size (fun m u5 u9 wr => ∃ (a : Int) (i : Nat), u5 = .int .i64 a /\ u9 = .int .i64 i /\ i + m = s.size /\ ((a = -1 /\ (58 : UInt8) ∉ s.data.toList.take i) \/ (0 <= a /\ a < i /\ (58 : UInt8) ∈ s.data.toList)) /\ Drw w wr)
 case atStart => exact ⟨-1, 0, rfl, rfl, by omega, .inl ⟨rfl, by simp⟩, Drw.refl w⟩
 case round =>
  obtain ⟨a, i, rfl, rfl, hi, hno, hD⟩ := hrel
  replace hD := zz hD
  by_cases hlt : i < s.size
  ·have i1 : (i : Int) < (s.size : Int) := by omega
   have i2 : IntKind.i64.wrap ((i : Int) + 1) = ((i + 1 : Nat) : Int) := by rw [IntWalk.i64_in _ (by omega)]; omega
   have hc := get_data s i
   obtain ⟨c, hcc⟩ : ∃ c, c = s.data.toList.getD i 0 := ⟨_, rfl⟩
   rw [<- hcc] at hc
   obtain ⟨n, hn⟩ : ∃ n, n = c.toNat := ⟨_, rfl⟩
   rw [<- hn] at hc
   have hil : i < s.data.toList.length := by rw [<- hsl.out]; exact hlt
   replace hi := zz hi
   by_cases h58 : n = 58
   ·have e0 : ((n : Int) != 58) = false := by rw [bne_eq_false_iff_eq]; omega
    have hmem : (58 : UInt8) ∈ s.data.toList := by
     have h1 : c = 58 := UInt8.toNat_inj.1 (by rw [<- hn, h58]; rfl)
     rw [List.getD_eq_getElem?_getD, List.getElem?_eq_getElem hil] at hcc
     have h2 : c = s.data.toList[i] := hcc
     rw [<- h1, h2]; exact List.getElem_mem hil
    replace h58 := zz h58
    replace hn := zz hn
    replace hcc := zz hcc
    replace hmem := zz hmem
    rcases hno with ⟨rfl, hno⟩ | ⟨h1, h2, h3⟩
    ·replace hno := zz hno
     go_wp2
     go_roundg (s.size - (i + 1))
     case measure => have := hi.out; omega
     case rel => exact ⟨i, i + 1, rfl, rfl, by have := hi.out; omega, .inr ⟨by omega, by omega, hmem.out⟩, hD.out⟩
    ·replace h3 := zz h3
     go_wp2
     go_ret3
     exact ⟨⟨#[]⟩, ⟨#[]⟩, false, rfl, hD.out, Nat.zero_le _, Nat.zero_le _, fun h => absurd hmem.out h, fun _ h => absurd h (by decide)⟩
   ·have e0 : ((n : Int) != 58) = true := by rw [bne_iff_ne]; omega
    have hne : c ≠ 58 := by rintro rfl; exact h58 hn
    have hno' : (a = -1 /\ (58 : UInt8) ∉ s.data.toList.take (i + 1)) \/ (0 <= a /\ a < (i + 1 : Nat) /\ (58 : UInt8) ∈ s.data.toList) := by
     rcases hno with ⟨h1, h2⟩ | ⟨h1, h2, h3⟩
     ·exact .inl ⟨h1, mem_take_succ hil h2 (by rw [<- hcc]; exact hne)⟩
     ·exact .inr ⟨h1, by omega, h3⟩
    replace h58 := zz h58
    replace hn := zz hn
    replace hne := zz hne
    replace hcc := zz hcc
    replace hno' := zz hno'
    clear hno
    go_wp2
    go_roundg (s.size - (i + 1))
    case measure => have := hi.out; omega
    case rel => exact ⟨a, i + 1, rfl, rfl, by have := hi.out; omega, hno'.out, hD.out⟩
  ·have i1 : ¬ (i : Int) < (s.size : Int) := by omega
   have his : i = s.size := by omega
   subst his
   rcases hno with ⟨rfl, hno⟩ | ⟨h1, h2, h3⟩
   ·have hno2 : (58 : UInt8) ∉ s.data.toList := by
     rwa [List.take_of_length_le (by rw [<- hsl.out]; omega)] at hno
    replace hno2 := zz hno2
    clear hi hlt hno
    go_wp2
    go_ret3
    exact ⟨⟨#[]⟩, s, true, rfl, hD.out, Nat.zero_le _, Nat.le_refl _, fun _ => ⟨rfl, rfl, rfl⟩, fun h => absurd h hno2.out⟩
   ·obtain ⟨A, rfl⟩ := Int.eq_ofNat_of_zero_le h1
    have j1 : ¬ ((A : Int) < 0) := by omega
    have j2 : (A : Int) <= (s.size : Int) := by omega
    have j3 : IntKind.i64.wrap ((A : Int) + 1) = ((A + 1 : Nat) : Int) := by rw [IntWalk.i64_in _ (by omega)]; omega
    have j4 : ((A + 1 : Nat) : Int) <= (s.size : Int) := by omega
    have j5 : (0 : Int) <= ((A + 1 : Nat) : Int) := by omega
    obtain ⟨B, hB⟩ : ∃ B, B = A + 1 := ⟨_, rfl⟩
    rw [<- hB] at j3 j4 j5
    have hp : (s.extract 0 A).size = A := by
     rw [Lib.size_eq, ext_sub]; simp
     have := hsl.out; omega
    have hl2 : (s.extract B s.size).size <= s.size := by rw [ext_size]; omega
    replace hB := zz hB
    replace hp := zz hp
    replace hl2 := zz hl2
    replace h3 := zz h3
    clear hi hlt
    by_cases hA : A = 0
    ·have j6 : ¬ (0 < A) := by omega
     replace hA := zz hA
     go_wp2
     go_quiet (fail)
     go_wp2
     go_ret3
     exact ⟨_, _, _, rfl, hD.out.trans ⟨_, rfl⟩, by have := hp.out; omega, hl2.out, fun h => absurd h3.out h, fun _ h => absurd h (by decide)⟩
    ·have j6 : 0 < A := by omega
     replace hA := zz hA
     by_cases j7 : (B : Int) < (s.size : Int)
     all_goals (
      go_wp2
      go_quiet (fail)
      go_wp2
      go_ret3
      exact ⟨_, _, _, rfl, hD.out.trans ⟨_, rfl⟩, by have := hp.out; omega, hl2.out, fun h => absurd h3.out h, fun _ _ h => hA.out (by rw [hp.out] at h; exact h)⟩)
theorem verbatim_do (s : ByteArray) (w : World) (hs : s.size <= 549755813888) : Calls Tryz.prog 24 #[.string s] w fun e w' => ∃ b, e = .returned (.bool b) /\ Drw w w' := by
 have hch := fun w1 => (chars_do s w1).mono (R' := fun e w' => ∃ b, e = .returned (.bool b) /\ Hid (Drw w1 w')) (fun _ _ ⟨b, h1, h2, _⟩ => ⟨b, h1, h2⟩)
 replace hch := zz hch
 go_enter Tryz.func24, Tryz.ntmps24
 go_wp2
 go_loopg [6] s.size (fun m u6 wr => ∃ i : Nat, u6 = .int .i64 i /\ i + m = s.size /\ Drw w wr)
 case atStart => exact ⟨0, rfl, by omega, Drw.refl w⟩
 case round =>
  obtain ⟨i, rfl, hi, hD⟩ := hrel
  replace hD := zz hD
  by_cases hlt : i < s.size
  ·have i1 : (i : Int) < (s.size : Int) := by omega
   have i2 : IntKind.i64.wrap ((i : Int) + 1) = ((i + 1 : Nat) : Int) := by rw [IntWalk.i64_in _ (by omega)]; omega
   have hc := get_data s i
   obtain ⟨n, hn⟩ : ∃ n, n = (s.data.toList.getD i 0).toNat := ⟨_, rfl⟩
   rw [<- hn] at hc
   replace hn := zz hn
   replace hi := zz hi
   by_cases h13 : n = 13
   ·have e0 : ((n : Int) == 13) = true := by rw [beq_iff_eq]; omega
    replace h13 := zz h13
    go_wp2
    go_ret
    exact ⟨false, rfl, hD.out⟩
   ·have e0 : ((n : Int) == 13) = false := by rw [beq_eq_false_iff_ne]; omega
    replace h13 := zz h13
    go_wp2
    go_roundg (s.size - (i + 1))
    case measure => have := hi.out; omega
    case rel => exact ⟨i + 1, rfl, by have := hi.out; omega, hD.out⟩
  ·have i1 : ¬ (i : Int) < (s.size : Int) := by omega
   clear hi hlt
   go_wp2_with (go_at_call 23; refine (hch.out _).mono ?_; rintro e w1 ⟨b, rfl, k1⟩)
   go_ret
   exact ⟨b, rfl, hD.out.trans k1.out⟩
def resF (l : List UInt8) : Bool := decide (3 <= l.length) && (bits .or .u8 (l.getD 0 0).toNat 32 == 120) && (bits .or .u8 (l.getD 1 0).toNat 32 == 109) && (bits .or .u8 (l.getD 2 0).toNat 32 == 108)
theorem resF_xml : resF [120, 109, 108] = true := by decide
theorem reserved_do (s : ByteArray) (w : World) : Calls Tryz.prog 27 #[.string s] w fun e w' => e = .returned (.bool (resF s.data.toList)) /\ w' = w := by
 have hsl : s.size = s.data.toList.length := Lib.size_eq s
 unfold resF
 rw [<- hsl]
 have g0 := get_data s 0
 have g1 := get_data s 1
 have g2 := get_data s 2
 generalize (s.data.toList.getD 0 0).toNat = a at *
 generalize (s.data.toList.getD 1 0).toNat = b at *
 generalize (s.data.toList.getD 2 0).toNat = c at *
 clear hsl
 by_cases h3 : 3 <= s.size
 ·have i1 : (3 : Int) <= (s.size : Int) := by omega
  have i2 : (0 : Int) < (s.size : Int) := by omega
  have i3 : (1 : Int) < (s.size : Int) := by omega
  have i4 : (2 : Int) < (s.size : Int) := by omega
  rw [decide_eq_true h3]
  replace h3 := zz h3
  cases ha : (bits .or .u8 (a : Int) 32 == 120)
  ·go_enter Tryz.func27, Tryz.ntmps27
   go_wp2
   go_ret
   exact ⟨rfl, rfl⟩
  ·cases hb : (bits .or .u8 (b : Int) 32 == 109)
   ·go_enter Tryz.func27, Tryz.ntmps27
    go_wp2
    go_ret
    exact ⟨rfl, rfl⟩
   ·cases hc : (bits .or .u8 (c : Int) 32 == 108)
    all_goals (
     go_enter Tryz.func27, Tryz.ntmps27
     go_wp2
     go_ret
     exact ⟨rfl, rfl⟩)
 ·have i1 : ¬ (3 : Int) <= (s.size : Int) := by omega
  rw [decide_eq_false h3]
  replace h3 := zz h3
  go_enter Tryz.func27, Tryz.ntmps27
  go_wp2
  go_ret
  exact ⟨rfl, rfl⟩
end
section
open Go.RowKit
theorem bytes_eq {a b : ByteArray} (h : a.data.toList = b.data.toList) : a = b := by
 cases a; cases b; congr 1; exact Array.toList_inj.1 h
structure PV where
 ov : Value
 pv : Value
 bv : Value
def psA (s : ByteArray) (a : Nat) (q : PV) (vd : Int) : Array Value := #[.string s, .int .i64 a, .bool true, .slice none 0 0, .string ⟨#[]⟩, q.ov, q.pv, q.bv, .int .i64 vd]
abbrev PB (w : World) (P : Nat) (s : ByteArray) (a : Nat) (q : PV) (vd : Int) : Prop := Blk w P (psA s a q vd) 88
theorem PB.c {w : World} {P : Nat} {s : ByteArray} {a : Nat} {q : PV} {vd : Int} (h : PB w P s a q vd) : w.cell? ⟨P, 0, none⟩ = some (.string s) /\ w.cell? ⟨P, 1, none⟩ = some (.int .i64 a) /\ w.cell? ⟨P, 2, none⟩ = some (.bool true) /\ w.cell? ⟨P, 3, none⟩ = some (.slice none 0 0) /\ w.cell? ⟨P, 4, none⟩ = some (.string ⟨#[]⟩) /\ w.cell? ⟨P, 5, none⟩ = some q.ov /\ w.cell? ⟨P, 6, none⟩ = some q.pv /\ w.cell? ⟨P, 7, none⟩ = some q.bv /\ w.cell? ⟨P, 8, none⟩ = some (.int .i64 vd) /\ ∀ i, w.frozen? ⟨P, i, none⟩ = false :=
 ⟨by rw [h.cell]; rfl, by rw [h.cell]; rfl, by rw [h.cell]; rfl, by rw [h.cell]; rfl, by rw [h.cell]; rfl, by rw [h.cell]; rfl, by rw [h.cell]; rfl, by rw [h.cell]; rfl, by rw [h.cell]; rfl, h.fz⟩
theorem PB.set1 {w : World} {P : Nat} {s : ByteArray} {a : Nat} {q : PV} {vd : Int} (h : PB w P s a q vd) (b : Nat) : PB (w.setCell ⟨P, 1, none⟩ (.int .i64 b)) P s b q vd := Blk.set h 1 _
theorem PB.set8 {w : World} {P : Nat} {s : ByteArray} {a : Nat} {q : PV} {vd : Int} (h : PB w P s a q vd) (b : Int) : PB (w.setCell ⟨P, 8, none⟩ (.int .i64 b)) P s a q b := Blk.set h 8 _
theorem Blk.drw {w w' : World} {b : Nat} {cs : Array Value} {T : TypeId} (h : Blk w b cs T) (d : Drw w w') : Blk w' b cs T := h.keep d.old (fun h => h)
abbrev FrP (P : Nat) (w w' : World) : Prop := Fr (fun x => x = P) w w'
theorem frp_of {P : Nat} {w w' : World} (d : Drw w w') : FrP P w w' := Fr.of_old d.old
theorem frp_tr {P : Nat} {a b c : World} (h : FrP P a b) (k : FrP P b c) : FrP P a c := h.trans k (fun _ h => .inl h)
theorem frp_st {P : Nat} {w w' : World} (h : FrP P w w') (i : Nat) (v : Value) : FrP P w (w'.setCell ⟨P, i, none⟩ v) := h.set (Or.inl rfl) _ _
section
variable {w : World} {P : Nat} {s : ByteArray} {a : Nat} {q : PV} {vd : Int} (h : PB w P s a q vd)
include h
theorem spFail_do (v : Int) : Calls Tryz.prog 82 #[.pointer (some ⟨P, 0, none⟩), .int .i64 v] w fun e w' => e = .returned (.bool false) /\ PB w' P s a q v /\ FrP P w w' := by
 obtain ⟨_, _, _, _, _, _, _, _, c8, cf⟩ := h.c
 replace h := zz h
 go_enter Tryz.func82, Tryz.ntmps82
 go_wp2
 go_ret
 exact ⟨rfl, h.out.set8 v, frp_st (Fr.refl _ w) _ _⟩
theorem ended_no (ha : a < s.size) : Calls Tryz.prog 42 #[.pointer (some ⟨P, 0, none⟩)] w fun e w' => e = .returned (.bool false) /\ Drw w w' := by
 obtain ⟨c0, c1, _, _, _, _, _, _, _, cf⟩ := h.c
 have i1 : ¬ ((s.size : Int) <= (a : Int)) := by omega
 have i2 : ¬ s.size <= a := by omega
 clear h ha
 go_enter Tryz.func42, Tryz.ntmps42
 go_wp2
 go_quiet (fail)
 go_wp2
 go_ret
 exact ⟨rfl, ⟨_, rfl⟩⟩
theorem ended_yes (ha : s.size <= a) : Calls Tryz.prog 42 #[.pointer (some ⟨P, 0, none⟩)] w fun e w' => e = .returned (.bool true) /\ Drw w w' := by
 obtain ⟨c0, c1, _, _, _, _, _, _, _, cf⟩ := h.c
 clear h
 go_enter Tryz.func42, Tryz.ntmps42
 go_wp2
 go_quiet (fail)
 go_wp2
 go_ret
 exact ⟨rfl, ⟨_, rfl⟩⟩
theorem has_yes (lit : List UInt8) (rest : List UInt8) (hl : s.data.toList.drop a = lit ++ rest) (hz : s.size <= 549755813888) (ha : a <= s.size) (hlit : lit.length <= 1000) : Calls Tryz.prog 76 #[.pointer (some ⟨P, 0, none⟩), .string ⟨lit.toArray⟩] w fun e w' => e = .returned (.bool true) /\ PB w' P s (a + lit.length) q vd /\ FrP P w w' := by
 obtain ⟨c0, c1, _, _, _, _, _, _, _, cf⟩ := h.c
 have hlen : s.size = a + lit.length + rest.length := by
  have := congrArg List.length hl
  rw [List.length_drop, List.length_append, <- Lib.size_eq] at this
  omega
 have hex : s.extract a (a + lit.length) = ⟨lit.toArray⟩ := by
  apply bytes_eq
  rw [ext_sub, List.take_add, List.drop_append_of_le_length (by simp; omega), List.drop_take_self, hl, List.nil_append, List.take_left]
 obtain ⟨m, hm⟩ : ∃ m, m = lit.length := ⟨_, rfl⟩
 have i0 : (⟨lit.toArray⟩ : ByteArray).size = m := by rw [Lib.size_eq, hm]
 rw [<- hm] at hlen hex hlit ⊢
 have i1 : IntKind.i64.wrap ((s.size : Int) - (a : Int)) = ((s.size - a : Nat) : Int) := by rw [IntWalk.i64_in _ (by omega)]; omega
 have i2 : ¬ (s.size - a < m) := by omega
 have i3 : IntKind.i64.wrap ((a : Int) + (m : Int)) = ((a + m : Nat) : Int) := by rw [IntWalk.i64_in _ (by omega)]; omega
 replace h := zz h
 clear hl hlen hm
 go_enter Tryz.func76, Tryz.ntmps76
 go_wp2
 go_quiet (fail)
 go_wp2
 go_ret
 exact ⟨rfl, PB.set1 (w := w.drewN nq) h.out (a + m), frp_st (frp_of ⟨_, rfl⟩) _ _⟩
theorem has_no (lit : List UInt8) (hl : (s.data.toList.drop a).take lit.length ≠ lit) (hz : s.size <= 549755813888) (ha : a <= s.size) (hlit : lit.length <= 1000) : Calls Tryz.prog 76 #[.pointer (some ⟨P, 0, none⟩), .string ⟨lit.toArray⟩] w fun e w' => e = .returned (.bool false) /\ Drw w w' := by
 obtain ⟨c0, c1, _, _, _, _, _, _, _, cf⟩ := h.c
 obtain ⟨m, hm⟩ : ∃ m, m = lit.length := ⟨_, rfl⟩
 have i0 : (⟨lit.toArray⟩ : ByteArray).size = m := by rw [Lib.size_eq, hm]
 have i1 : IntKind.i64.wrap ((s.size : Int) - (a : Int)) = ((s.size - a : Nat) : Int) := by rw [IntWalk.i64_in _ (by omega)]; omega
 have i3 : IntKind.i64.wrap ((a : Int) + (m : Int)) = ((a + m : Nat) : Int) := by rw [IntWalk.i64_in _ (by omega)]; omega
 by_cases i2 : s.size - a < m
 ·clear h hl hm
  go_enter Tryz.func76, Tryz.ntmps76
  go_wp2
  go_quiet (fail)
  go_wp2
  go_ret
  exact ⟨rfl, ⟨_, rfl⟩⟩
 ·have hex : (s.extract a (a + m)).data.toList = (s.data.toList.drop a).take m := by
   rw [ext_sub, List.take_add, List.drop_append_of_le_length (by simp; omega), List.drop_take_self, List.nil_append]
  have hne : ((s.extract a (a + m)).toList == lit) = false := by
   rw [Go.ByteArray.toList_eq, hex, beq_eq_false_iff_ne, hm]; exact hl
  generalize hX : s.extract a (a + m) = X at *
  clear h hl hm hex
  go_enter Tryz.func76, Tryz.ntmps76
  go_wp2
  go_quiet (fail)
  go_wp2
  go_ret
  exact ⟨rfl, ⟨_, rfl⟩⟩
end
end
section
open Go.RowKit
theorem at_byte {s : ByteArray} {a : Nat} {c : UInt8} {t : List UInt8} (h : s.data.toList.drop a = c :: t) : a < s.size /\ (∀ h : a < s.size, (s[a]'h).toNat = c.toNat) /\ s.data.toList.drop (a + 1) = t := by
 have hlen : s.size = a + t.length + 1 := by
  have := congrArg List.length h
  rw [List.length_drop, <- Lib.size_eq, List.length_cons] at this
  omega
 refine ⟨by omega, fun h' => ?_, ?_⟩
 ·rw [get_data, List.getD_eq_getElem?_getD]
  have : s.data.toList[a]? = some c := by
   have := congrArg (fun l => l[0]?) h
   simpa using this
  rw [this]; rfl
 ·rw [<- List.drop_drop, h]; rfl
theorem at_end {s : ByteArray} {a : Nat} (h : s.data.toList.drop a = []) : s.size <= a := by
 have := congrArg List.length h
 rw [List.length_drop, <- Lib.size_eq, List.length_nil] at this
 omega
theorem at_le {s : ByteArray} {a : Nat} {l t : List UInt8} (h : s.data.toList.drop a = l ++ t) (ha : a <= s.size) : s.size = a + l.length + t.length := by
 have := congrArg List.length h
 rw [List.length_drop, <- Lib.size_eq, List.length_append] at this
 omega
theorem at_go {s : ByteArray} {a : Nat} {l t : List UInt8} (h : s.data.toList.drop a = l ++ t) : s.data.toList.drop (a + l.length) = t := by
 rw [<- List.drop_drop, h, List.drop_left]
theorem PB.drewN {w : World} {P : Nat} {s : ByteArray} {a : Nat} {q : PV} {vd : Int} (h : PB w P s a q vd) (n : Nat) : PB (w.drewN n) P s a q vd := Blk.drw h ⟨n, rfl⟩
def wb (c : UInt8) : Bool := decide (128 <= c.toNat) || nCt c.toNat
structure BlanksP (P : Nat) (s : ByteArray) (a : Nat) (q : PV) (vd : Int) (w : World) (e : Ending) (w' : World) : Prop where
 ex : ∃ ws rest, e = .returned (.bool (!ws.isEmpty)) /\ s.data.toList.drop a = ws ++ rest /\ (∀ c ∈ ws, isWs c = true) /\ (∀ c t, rest = c :: t -> isWs c = false) /\ PB w' P s (a + ws.length) q vd /\ FrP P w w'
section
variable {w : World} {P : Nat} {s : ByteArray} {a : Nat} {q : PV} {vd : Int} (h : PB w P s a q vd) (hz : s.size <= 549755813888) (ha : a <= s.size)
include h hz ha
theorem blanks_do : Calls Tryz.prog 131 #[.pointer (some ⟨P, 0, none⟩)] w (BlanksP P s a q vd w) := by
 obtain ⟨c0, c1, _, _, _, _, _, _, _, cf⟩ := h.c
 replace h := zz h
 go_enter Tryz.func131, Tryz.ntmps131
 go_wp2
 go_loopg [8] (s.size - a) (fun k u8 wr => ∃ ws rest, s.data.toList.drop a = ws ++ rest /\ (∀ c ∈ ws, isWs c = true) /\ rest.length = k /\ PB wr P s (a + ws.length) q vd /\ FrP P w wr)
 case atStart => exact ⟨[], s.data.toList.drop a, rfl, fun c hc => (by cases hc), by rw [List.length_drop, <- Lib.size_eq], h.out, Fr.refl _ w⟩
 case round =>
  obtain ⟨ws, rest, hL, hws, hk, hB, hF⟩ := hrel
  clear c0 c1 cf
  have hsz := at_le hL ha
  have hgo := at_go hL
  obtain ⟨A, hA⟩ : ∃ A, A = a + ws.length := ⟨_, rfl⟩
  rw [<- hA] at hB hsz hgo
  obtain ⟨c0, c1, _, _, _, _, _, _, _, cf⟩ := hB.c
  replace hws := zz hws
  replace hF := zz hF
  cases rest with
  | nil =>
   have he := quietly (fun n => ended_yes (hB.drewN n) (by simp at hsz; omega))
   have hfin : (decide (a < A)) = !ws.isEmpty := by
    cases ws with
    | nil => simp at hA; simp; omega
    | cons x y => simp at hA; simp; omega
   replace hfin := zz hfin
   replace hB := zz hB
   replace he := zz he
   replace hA := zz hA
   replace hL := zz hL
   clear hsz hgo hk
   go_wp2
   go_quiet (exact he.out _)
   go_wp2
   go_ret
   refine ⟨ws, [], ?_, hL.out, hws.out, fun c t e => (by cases e), ?_, ?_⟩
   ·rw [<- hfin.out]; simp
   ·rw [<- hA.out]; exact hB.out.drewN _
   ·exact frp_tr hF.out (frp_of ⟨_, rfl⟩)
  | cons c t =>
   obtain ⟨h1, h2, h3⟩ := at_byte hgo
   have he := quietly (fun n => ended_no (hB.drewN n) h1)
   have hs := quietly (w := wr) (fun n => spSpace_do c (wr.drewN n))
   obtain ⟨n, hn⟩ : ∃ n, n = c.toNat := ⟨_, rfl⟩
   rw [<- hn] at h2 hs
   have i1 : (A : Int) < (s.size : Int) := by omega
   have i2 : IntKind.i64.wrap ((A : Int) + 1) = ((A + 1 : Nat) : Int) := by rw [IntWalk.i64_in _ (by omega)]; omega
   replace hB := zz hB
   replace he := zz he
   replace hA := zz hA
   replace hL := zz hL
   replace hgo := zz hgo
   replace h3 := zz h3
   replace hn := zz hn
   replace hk := zz hk
   clear hsz
   cases hw : isWs c
   ·rw [hw] at hs
    have hfin : (decide (a < A)) = !ws.isEmpty := by
     have hA := hA.out
     cases ws with
     | nil => simp at hA; simp; omega
     | cons x y => simp at hA; simp; omega
    replace hfin := zz hfin
    replace hs := zz hs
    go_wp2
    go_quiet (first | (go_at_call 42; exact he.out _) | (go_at_call 28; exact hs.out _))
    go_wp2
    go_ret
    refine ⟨ws, c :: t, ?_, hL.out, hws.out, fun c' t' e => (by injection e with e _; rw [<- e]; exact hw), ?_, ?_⟩
    ·rw [<- hfin.out]; simp
    ·rw [<- hA.out]; exact hB.out.drewN _
    ·exact frp_tr hF.out (frp_of ⟨_, rfl⟩)
   ·rw [hw] at hs
    replace hs := zz hs
    go_wp2
    go_quiet (first | (go_at_call 42; exact he.out _) | (go_at_call 28; exact hs.out _))
    go_wp2
    go_roundg t.length
    case measure => have := hk.out; simp at this; omega
    case rel =>
     refine ⟨ws ++ [c], t, by rw [hL.out]; simp, fun x hx => ?_, rfl, ?_, frp_st (frp_tr hF.out (frp_of ⟨_, rfl⟩)) _ _⟩
     ·rcases List.mem_append.1 hx with hx | hx
      ·exact hws.out x hx
      ·obtain rfl : x = c := by simpa using hx
       exact hw
     ·have e : a + (ws ++ [c]).length = A + 1 := by rw [hA.out]; simp; omega
      rw [e]
      exact PB.set1 (w := wr.drewN nq) (hB.out.drewN nq) (A + 1)
theorem word_yes (x rest0 : List UInt8) (hL0 : s.data.toList.drop a = x ++ rest0) (hx : ∀ c ∈ x, wb c = true) (hr : ∀ c t, rest0 = c :: t -> wb c = false) : Calls Tryz.prog 133 #[.pointer (some ⟨P, 0, none⟩)] w fun e w' => e = .returned (.string ⟨x.toArray⟩) /\ Hid (PB w' P s (a + x.length) q vd /\ FrP P w w') := by
 obtain ⟨c0, c1, _, _, _, _, _, _, _, cf⟩ := h.c
 replace h := zz h
 replace hL0 := zz hL0
 replace hx := zz hx
 replace hr := zz hr
 go_enter Tryz.func133, Tryz.ntmps133
 go_wp2
 go_loopg [8] x.length (fun k u8 wr => ∃ ws y, x = ws ++ y /\ y.length = k /\ PB wr P s (a + ws.length) q vd /\ FrP P w wr)
 case atStart => exact ⟨[], x, rfl, rfl, h.out, Fr.refl _ w⟩
 case round =>
  obtain ⟨ws, y, hxy, hk, hB, hF⟩ := hrel
  clear c0 c1 cf
  have hL : s.data.toList.drop a = ws ++ (y ++ rest0) := by rw [hL0.out, hxy, List.append_assoc]
  have hsz := at_le hL ha
  have hgo := at_go hL
  obtain ⟨A, hA⟩ : ∃ A, A = a + ws.length := ⟨_, rfl⟩
  rw [<- hA] at hB hsz hgo
  obtain ⟨c0, c1, _, _, _, _, _, _, _, cf⟩ := hB.c
  replace hF := zz hF
  have j1 : (a : Int) <= (A : Int) := by omega
  have j2 : (A : Int) <= (s.size : Int) := by omega
  have j3 : (0 : Int) <= (a : Int) := by omega
  have hex : (s.extract a A).data.toList = ws := by
   rw [ext_sub, hA, List.take_add, List.drop_append_of_le_length (by simp; omega), List.drop_take_self, List.nil_append, hL, List.take_left]
  have hfin : y = [] -> ∀ n m, (Ending.returned (.string (s.extract a A)) = .returned (.string ⟨x.toArray⟩)) /\ Hid (PB ((wr.drewN n).drewN m) P s (a + x.length) q vd /\ FrP P w ((wr.drewN n).drewN m)) := fun hy n m => by
   subst hy
   rw [List.append_nil] at hxy
   have e1 : s.extract a A = ⟨x.toArray⟩ := bytes_eq (by rw [hex, hxy])
   rw [e1, drewN_add]
   refine ⟨rfl, ?_, frp_tr hF.out (frp_of ⟨_, rfl⟩)⟩
   rw [hxy, <- hA]; exact hB.drewN _
  replace hfin := zz hfin
  replace hex := zz hex
  obtain ⟨z, hz0⟩ : ∃ z, z = y ++ rest0 := ⟨_, rfl⟩
  rw [<- hz0] at hgo hsz
  cases z with
  | nil =>
   have hy : y = [] := (List.append_eq_nil_iff.1 hz0.symm).1
   have he := quietly (fun n => ended_yes (hB.drewN n) (by simp at hsz; omega))
   replace hB := zz hB
   replace he := zz he
   replace hA := zz hA
   replace hL := zz hL
   replace hz0 := zz hz0
   replace hxy := zz hxy
   replace hy := zz hy
   clear hsz hgo hk
   go_wp2
   go_quiet (exact he.out _)
   go_wp2
   go_quiet (fail)
   go_wp2
   go_ret
   exact hfin.out hy.out _ _
  | cons c t =>
   obtain ⟨h1, h2, h3⟩ := at_byte hgo
   have he := quietly (fun n => ended_no (hB.drewN n) h1)
   have hs := quietly (w := wr) (fun n => spCont_do c.toNat (wr.drewN n))
   have hcl := c.toNat_lt
   have hwb : (y = [] /\ wb c = false) \/ (∃ y', y = c :: y' /\ wb c = true) := by
    cases y with
    | nil => exact .inl ⟨rfl, hr.out c t hz0.symm⟩
    | cons d y' =>
     obtain rfl : c = d := by injection hz0
     exact .inr ⟨y', rfl, hx.out c (by rw [hxy]; simp)⟩
   unfold wb at hwb
   obtain ⟨n, hn⟩ : ∃ n, n = c.toNat := ⟨_, rfl⟩
   rw [<- hn] at h2 hs hcl hwb
   have i0 := w64 n (by omega)
   have i0w : IntKind.i64.wrap (n : Int) = (n : Int) := IntWalk.i64_in _ (by omega)
   have i1 : (A : Int) < (s.size : Int) := by omega
   have i2 : IntKind.i64.wrap ((A : Int) + 1) = ((A + 1 : Nat) : Int) := by rw [IntWalk.i64_in _ (by omega)]; omega
   have hnext : ∀ y', y = c :: y' -> x = (ws ++ [c]) ++ y' /\ a + (ws ++ [c]).length = A + 1 /\ y'.length + 1 = gk := fun y' hy => ⟨by rw [hxy, hy]; simp, by rw [hA]; simp; omega, by rw [<- hk, hy]; simp⟩
   have hstep : ∀ (y' : List UInt8) (m : Nat), y = c :: y' -> ∃ ws' z', x = ws' ++ z' /\ z'.length = y'.length /\ PB (((wr.drewN m).setCell ⟨P, 1, none⟩ (.int .i64 ((A + 1 : Nat) : Int)))) P s (a + ws'.length) q vd /\ FrP P w ((wr.drewN m).setCell ⟨P, 1, none⟩ (.int .i64 ((A + 1 : Nat) : Int))) := fun y' m hy => by
    obtain ⟨g1, g2, _⟩ := hnext y' hy
    refine ⟨ws ++ [c], y', g1, rfl, ?_, frp_st (frp_tr hF.out (frp_of ⟨_, rfl⟩)) _ _⟩
    rw [g2]
    exact PB.set1 (w := wr.drewN m) (hB.drewN m) (A + 1)
   replace hstep := zz hstep
   replace hB := zz hB
   replace he := zz he
   replace hA := zz hA
   replace hL := zz hL
   replace hgo := zz hgo
   replace h3 := zz h3
   replace hn := zz hn
   replace hk := zz hk
   replace hnext := zz hnext
   replace hz0 := zz hz0
   replace hxy := zz hxy
   clear hsz hcl
   rcases hwb with ⟨hy, hb⟩ | ⟨y', hy, hb⟩
   ·have hb2 : ¬ 128 <= n /\ nCt n = false := by
     rw [Bool.or_eq_false_iff, decide_eq_false_iff_not] at hb
     exact hb
    have e1 : ¬ (128 : Int) <= (n : Int) := by omega
    rw [hb2.2] at hs
    replace hs := zz hs
    replace hy := zz hy
    clear hb hb2
    go_wp2
    go_quiet (first | (go_at_call 42; exact he.out _) | (go_at_call 86; exact hs.out _))
    go_wp2
    go_quiet (fail)
    go_wp2
    go_ret
    exact hfin.out hy.out _ _
   ·have hb2 : 128 <= n \/ (¬ 128 <= n /\ nCt n = true) := by
     by_cases h : 128 <= n
     ·exact .inl h
     ·rw [decide_eq_false h, Bool.false_or] at hb
      exact .inr ⟨h, hb⟩
    replace hy := zz hy
    clear hb
    rcases hb2 with h128 | ⟨h128, hw⟩
    ·have e1 : (128 : Int) <= (n : Int) := by omega
     replace hs := zz hs
     go_wp2
     go_quiet (first | (go_at_call 42; exact he.out _) | (go_at_call 86; exact hs.out _))
     go_wp2
     go_roundg y'.length
     case measure => have := (hnext.out y' hy.out).2.2; omega
     case rel =>
      obtain ⟨ws', z', q1, q2, q3, q4⟩ := hstep.out y' nq hy.out
      exact ⟨ws', z', q1, q2, q3, q4⟩
    ·have e1 : ¬ (128 : Int) <= (n : Int) := by omega
     rw [hw] at hs
     replace hs := zz hs
     go_wp2
     go_quiet (first | (go_at_call 42; exact he.out _) | (go_at_call 86; exact hs.out _))
     go_wp2
     go_roundg y'.length
     case measure => have := (hnext.out y' hy.out).2.2; omega
     case rel =>
      obtain ⟨ws', z', q1, q2, q3, q4⟩ := hstep.out y' nq hy.out
      exact ⟨ws', z', q1, q2, q3, q4⟩
end
end
end Go.Proofs.YtepbbahdhhjibaaGreatDoor
