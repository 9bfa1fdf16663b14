/- own text -/
import Derived.Test.YtepbbahdhhjibaaGreatDoorC07
import Derived.Test.YtepbbahdhhjibaaGreatDoorC24
import Derived.Test.YtepbbahdhhjibaaGreatDoorC33
namespace Go.Proofs.YtepbbahdhhjibaaGreatDoor
set_option linter.unusedSimpArgs false
set_option linter.unusedVariables false
set_option maxHeartbeats 8000000
set_option maxRecDepth 100000
section
open Go.RowKit
structure NumberP (s : ByteArray) (w : World) (e : Ending) (w' : World) : Prop where
 ex : ∃ (n : Int) (ok : Bool), e = .returned (.tuple #[.int .i64 n, .bool ok]) /\ Drw w w' /\ (ok = true -> ∃ hex ds, s.data.toList = (if hex then [120] else []) ++ ds /\ ds ≠ [] /\ (∀ c ∈ ds, isDig (El.base hex) c = true) /\ (n = -1 \/ n = (numFrom (El.base hex) 0 ds : Nat)))
theorem numFrom_snoc (base : Nat) (ds : List UInt8) (c : UInt8) : numFrom base 0 (ds ++ [c]) = numFrom base 0 ds * base + digV c := by simp [numFrom]
theorem number_do (s : ByteArray) (w : World) (hs : s.size <= 1000000) : Calls Tryz.prog 176 #[.string s] w (NumberP s w) := by
 have hx : ∃ (hex : Bool) (u : ByteArray), s.data.toList = (if hex then [120] else []) ++ u.data.toList /\ u.size <= 1000000 /\ ((hex = false /\ u = s /\ (s.size = 0 \/ 0 < s.size /\ (∀ h, (s[0]'h).toNat = (s.data.toList.getD 0 0).toNat) /\ ((((s.data.toList.getD 0 0).toNat : Nat) : Int) == 120) = false)) \/ (hex = true /\ u = s.extract 1 s.size /\ 0 < s.size /\ (∀ h, (s[0]'h).toNat = (s.data.toList.getD 0 0).toNat) /\ ((((s.data.toList.getD 0 0).toNat : Nat) : Int) == 120) = true)) := by
  by_cases h0 : s.size = 0
  ·exact ⟨false, s, rfl, hs, .inl ⟨rfl, rfl, .inl h0⟩⟩
  ·by_cases h1 : (s.data.toList.getD 0 0).toNat = 120
   ·refine ⟨true, s.extract 1 s.size, ?_, by rw [ext_size]; omega, .inr ⟨rfl, rfl, by omega, fun h => get_data s 0 h, by rw [beq_iff_eq]; omega⟩⟩
    rw [ext_end]
    cases hl : s.data.toList with
    | nil => exact absurd (by rw [Lib.size_eq, hl]; rfl) h0
    | cons c t =>
     rw [hl] at h1
     have : c = 120 := UInt8.toNat_inj.1 h1
     subst this; rfl
   ·exact ⟨false, s, rfl, hs, .inl ⟨rfl, rfl, .inr ⟨by omega, fun h => get_data s 0 h, by rw [beq_eq_false_iff_ne]; omega⟩⟩⟩
 obtain ⟨hex, u, hL, hu, hcase⟩ := hx
 replace hL := zz hL
 generalize hc0 : (s.data.toList.getD 0 0).toNat = c0 at *
 rcases hcase with ⟨rfl, rfl, hc⟩ | ⟨rfl, hux, h0, h1, h2⟩
 ·rcases hc with h0 | ⟨h0, h1, h2⟩
  ·have he := toList_nil h0
   clear h0 hc0
   go_enter Tryz.func176, Tryz.ntmps176
   go_wp2
   go_ret2
   exact ⟨⟨0, false, rfl, Drw.refl _, fun h => absurd h (by decide)⟩⟩
  ·have he := toList_ne h0
   clear hc0
   go_enter Tryz.func176, Tryz.ntmps176
   go_wp2
   go_loopg [5, 21] u.size (fun k u5 u21 wr => ∃ (dn rs : List UInt8) (v : Int), u5 = .int .i64 v /\ u21 = .int .i64 dn.length /\ u.data.toList = dn ++ rs /\ rs.length = k /\ (∀ c ∈ dn, isDig 10 c = true) /\ (v = -1 \/ v = (numFrom 10 0 dn : Nat) /\ numFrom 10 0 dn <= 1114111) /\ wr = w)
   case atStart => exact ⟨[], u.data.toList, 0, rfl, rfl, rfl, (Lib.size_eq u).symm, fun c hc => (by cases hc), .inr ⟨rfl, by show 0 <= 1114111; omega⟩, rfl⟩
   case round =>
    obtain ⟨dn, rs, v, rfl, rfl, hds, hk, hdig, hv, rfl⟩ := hrel
    have hsz : u.size = dn.length + rs.length := by rw [Lib.size_eq, hds, List.length_append]
    replace hdig := zz hdig
    obtain ⟨I, hI⟩ : ∃ I, I = dn.length := ⟨_, rfl⟩
    rw [<- hI] at hsz ⊢
    replace hI := zz hI
    cases rs with
    | nil =>
     have e1 : ¬ ((I : Int) < (u.size : Int)) := by simp at hsz; omega
     have e2 : u.data.toList = dn := by simpa using hds
     have hfin : u.data.toList = (if false then [120] else []) ++ dn /\ dn ≠ [] := by
      refine ⟨hL.out.trans (by rw [e2]; first | done | simp), fun e => ?_⟩
      have h3 : u.size = 0 := by rw [Lib.size_eq, e2, e]; rfl
      exact absurd h3 (by omega)
     replace hfin := zz hfin
     clear hds hsz e2
     replace hv := zz hv
     go_wp2
     go_ret2
     exact ⟨⟨v, true, rfl, Drw.refl _, fun _ => ⟨false, dn, hfin.out.1, hfin.out.2, hdig.out, hv.out.imp id (fun h => h.1)⟩⟩⟩
    | cons c rs =>
     have e1 : (I : Int) < (u.size : Int) := by simp at hsz; omega
     have hgd : u.data.toList.getD I 0 = c := by
      rw [hds, hI.out, List.getD_eq_getElem?_getD, List.getElem?_append_right (Nat.le_refl _)]; simp
     have hidx := get_data u I
     rw [hgd] at hidx
     have hcl := c.toNat_lt
     have hnext : u.data.toList = (dn ++ [c]) ++ rs /\ I + 1 = (dn ++ [c]).length := ⟨by rw [hds]; simp, by rw [hI.out]; simp⟩
     have hdig' : isDig 10 c = true -> ∀ x ∈ dn ++ [c], isDig 10 x = true := fun h x hx => by
      rcases List.mem_append.1 hx with hx | hx
      ·exact hdig.out x hx
      ·obtain rfl : x = c := by simpa using hx
       exact h
     have hdd : digV c = if c.toNat <= 57 then c.toNat - 48 else if 97 <= c.toNat then c.toNat - 87 else c.toNat - 55 := rfl
     have hsn := numFrom_snoc 10 dn c
     have hid2 : isDig 10 c = decide (48 <= c.toNat /\ c.toNat <= 57 \/ (10 : Nat) = 16 /\ (97 <= c.toNat /\ c.toNat <= 102 \/ 65 <= c.toNat /\ c.toNat <= 70)) := rfl
     have hk' : rs.length + 1 = gk := by simpa using hk
     generalize hn : c.toNat = n at *
     have iw := w64 n (by omega)
     have i2 : IntKind.i64.wrap ((I : Int) + 1) = ((I + 1 : Nat) : Int) := by rw [IntWalk.i64_in _ (by omega)]; omega
     obtain ⟨N, hN⟩ : ∃ N, N = numFrom 10 0 dn := ⟨_, rfl⟩
     obtain ⟨d, hd⟩ : ∃ d, d = digV c := ⟨_, rfl⟩
     rw [<- hN, <- hd] at hsn
     rw [<- hN] at hv
     rw [<- hd] at hdd
     replace hn := zz hn
     replace hnext := zz hnext
     replace hdig' := zz hdig'
     replace hsn := zz hsn
     replace hN := zz hN
     replace hd := zz hd
     replace hdd := zz hdd
     replace hid2 := zz hid2
     replace hk' := zz hk'
     clear hds hsz hgd hk
     have hcase : (48 <= n /\ n <= 57) \/ (97 <= n /\ n <= 102) \/ (65 <= n /\ n <= 70) \/ (n < 48 \/ 57 < n /\ n < 65 \/ 70 < n /\ n < 97 \/ 102 < n) := by omega
     have hnb : ∀ M : Nat, M = N * 10 + d -> (M <= 1114111 -> v ≠ -1 -> ((M : Nat) : Int) = -1 \/ ((M : Nat) : Int) = (numFrom 10 0 (dn ++ [c]) : Nat) /\ numFrom 10 0 (dn ++ [c]) <= 1114111) := fun M hM h1 _ => .inr ⟨by rw [hsn.out, hM], by rw [hsn.out, <- hM]; exact h1⟩
     replace hnb := zz hnb
     rcases hcase with ⟨h3, h4⟩ | ⟨h3, h4⟩ | ⟨h3, h4⟩ | h3
     ·have x3 : (48 : Int) <= (n : Int) := by omega
      have x4 : (n : Int) <= 57 := by omega
      have hdv : d = n - 48 := by have := hdd.out; split at this <;> first | omega | (split at this <;> omega)
      have hdok : isDig 10 c = true := by rw [hid2.out]; exact decide_eq_true (by omega)
      have d1 : IntKind.i64.wrap ((n : Int) - 48) = (d : Int) := by rw [IntWalk.i64_in _ (by omega)]; omega
      have d2 : d < 16 := by omega
      replace hdok := zz hdok
      replace hdv := zz hdv
      rcases hv with rfl | ⟨rfl, hNb⟩
      ·go_wp2
       go_roundg rs.length
       case measure => have := hk'.out; omega
       case rel => exact ⟨dn ++ [c], rs, -1, rfl, congrArg (Value.int .i64) (by have := hnext.out.2; omega), hnext.out.1, rfl, hdig'.out hdok.out, .inl rfl, rfl⟩
      ·obtain ⟨M, hM⟩ : ∃ M, M = N * 10 := ⟨_, rfl⟩
       obtain ⟨R, hR⟩ : ∃ R, R = M + d := ⟨_, rfl⟩
       have m1 : IntKind.i64.wrap ((N : Int) * 10) = (M : Int) := by rw [IntWalk.i64_in _ (by omega)]; omega
       have m2 : IntKind.i64.wrap ((M : Int) + (d : Int)) = (R : Int) := by rw [IntWalk.i64_in _ (by omega)]; omega
       have hRR : R = N * 10 + d := by rw [hR, hM]
       have hRR := zz hRR
       replace hM := zz hM
       replace hR := zz hR
       by_cases hgt : R <= 1114111
       ·have g1 : ¬ ((1114111 : Int) < (R : Int)) := by omega
        have g2 : ¬ (1114111 < R) := by omega
        replace hgt := zz hgt
        replace hNb := zz hNb
        go_wp2
        go_roundg rs.length
        case measure => have := hk'.out; omega
        case rel => exact ⟨dn ++ [c], rs, R, (by first | rfl | exact congrArg (Value.int .i64) (by have := hRR.out; omega)), congrArg (Value.int .i64) (by have := hnext.out.2; omega), hnext.out.1, rfl, hdig'.out hdok.out, hnb.out R hRR.out hgt.out (by omega), rfl⟩
       ·have g1 : (1114111 : Int) < (R : Int) := by omega
        have g2 : 1114111 < R := by omega
        replace hgt := zz hgt
        replace hNb := zz hNb
        go_wp2
        go_roundg rs.length
        case measure => have := hk'.out; omega
        case rel => exact ⟨dn ++ [c], rs, -1, rfl, congrArg (Value.int .i64) (by have := hnext.out.2; omega), hnext.out.1, rfl, hdig'.out hdok.out, .inl rfl, rfl⟩
     ·have x5 : ¬ ((n : Int) <= 57) := by omega
      clear hv
      go_wp2
      go_ret2
      exact ⟨⟨0, false, rfl, Drw.refl _, fun h => absurd h (by decide)⟩⟩
     ·have x5 : ¬ ((n : Int) <= 57) := by omega
      clear hv
      go_wp2
      go_ret2
      exact ⟨⟨0, false, rfl, Drw.refl _, fun h => absurd h (by decide)⟩⟩
     ·clear hv
      rcases h3 with h3 | ⟨h3, h4⟩ | ⟨h3, h4⟩ | h3
      all_goals (
       go_wp2
       go_ret2
       exact ⟨⟨0, false, rfl, Drw.refl _, fun h => absurd h (by decide)⟩⟩)
 ·have he := toList_ne h0
  have i1 : (1 : Int) <= (s.size : Int) := by omega
  clear hc0
  by_cases hu0 : u.size = 0
  ·have he2 := toList_nil hu0
   rw [hux] at he2
   clear hux hu0
   go_enter Tryz.func176, Tryz.ntmps176
   go_wp2
   go_quiet (fail)
   go_wp2
   go_ret2
   exact ⟨⟨0, false, rfl, ⟨_, rfl⟩, fun h => absurd h (by decide)⟩⟩
  ·have he2 := toList_ne (s := u) (by omega)
   rw [hux] at he2
   replace hux := zz hux
   go_enter Tryz.func176, Tryz.ntmps176
   go_wp2
   go_quiet (fail)
   go_wp2
   have hus : s.size - 1 = u.size := by rw [hux.out, ext_size]
   rw [<- hux.out, hus]
   clear hus he2 h0 h1 h2 he i1
   go_loopg [5, 21] u.size (fun k u5 u21 wr => ∃ (dn rs : List UInt8) (v : Int), u5 = .int .i64 v /\ u21 = .int .i64 dn.length /\ u.data.toList = dn ++ rs /\ rs.length = k /\ (∀ c ∈ dn, isDig 16 c = true) /\ (v = -1 \/ v = (numFrom 16 0 dn : Nat) /\ numFrom 16 0 dn <= 1114111) /\ wr = w.drewN nq)
   case atStart => exact ⟨[], u.data.toList, 0, rfl, rfl, rfl, (Lib.size_eq u).symm, fun c hc => (by cases hc), .inr ⟨rfl, by show 0 <= 1114111; omega⟩, rfl⟩
   case round =>
    obtain ⟨dn, rs, v, rfl, rfl, hds, hk, hdig, hv, rfl⟩ := hrel
    have hsz : u.size = dn.length + rs.length := by rw [Lib.size_eq, hds, List.length_append]
    replace hdig := zz hdig
    obtain ⟨I, hI⟩ : ∃ I, I = dn.length := ⟨_, rfl⟩
    rw [<- hI] at hsz ⊢
    replace hI := zz hI
    cases rs with
    | nil =>
     have e1 : ¬ ((I : Int) < (u.size : Int)) := by simp at hsz; omega
     have e2 : u.data.toList = dn := by simpa using hds
     have hfin : s.data.toList = (if true then [120] else []) ++ dn /\ dn ≠ [] := by
      refine ⟨hL.out.trans (by rw [e2]; first | done | simp), fun e => ?_⟩
      have h3 : u.size = 0 := by rw [Lib.size_eq, e2, e]; rfl
      exact absurd h3 hu0
     replace hfin := zz hfin
     clear hds hsz e2
     replace hv := zz hv
     go_wp2
     go_ret2
     exact ⟨⟨v, true, rfl, ⟨_, rfl⟩, fun _ => ⟨true, dn, hfin.out.1, hfin.out.2, hdig.out, hv.out.imp id (fun h => h.1)⟩⟩⟩
    | cons c rs =>
     have e1 : (I : Int) < (u.size : Int) := by simp at hsz; omega
     have hgd : u.data.toList.getD I 0 = c := by
      rw [hds, hI.out, List.getD_eq_getElem?_getD, List.getElem?_append_right (Nat.le_refl _)]; simp
     have hidx := get_data u I
     rw [hgd] at hidx
     have hcl := c.toNat_lt
     have hnext : u.data.toList = (dn ++ [c]) ++ rs /\ I + 1 = (dn ++ [c]).length := ⟨by rw [hds]; simp, by rw [hI.out]; simp⟩
     have hdig' : isDig 16 c = true -> ∀ x ∈ dn ++ [c], isDig 16 x = true := fun h x hx => by
      rcases List.mem_append.1 hx with hx | hx
      ·exact hdig.out x hx
      ·obtain rfl : x = c := by simpa using hx
       exact h
     have hdd : digV c = if c.toNat <= 57 then c.toNat - 48 else if 97 <= c.toNat then c.toNat - 87 else c.toNat - 55 := rfl
     have hsn := numFrom_snoc 16 dn c
     have hid2 : isDig 16 c = decide (48 <= c.toNat /\ c.toNat <= 57 \/ (16 : Nat) = 16 /\ (97 <= c.toNat /\ c.toNat <= 102 \/ 65 <= c.toNat /\ c.toNat <= 70)) := rfl
     have hk' : rs.length + 1 = gk := by simpa using hk
     generalize hn : c.toNat = n at *
     have iw := w64 n (by omega)
     have i2 : IntKind.i64.wrap ((I : Int) + 1) = ((I + 1 : Nat) : Int) := by rw [IntWalk.i64_in _ (by omega)]; omega
     obtain ⟨N, hN⟩ : ∃ N, N = numFrom 16 0 dn := ⟨_, rfl⟩
     obtain ⟨d, hd⟩ : ∃ d, d = digV c := ⟨_, rfl⟩
     rw [<- hN, <- hd] at hsn
     rw [<- hN] at hv
     rw [<- hd] at hdd
     replace hn := zz hn
     replace hnext := zz hnext
     replace hdig' := zz hdig'
     replace hsn := zz hsn
     replace hN := zz hN
     replace hd := zz hd
     replace hdd := zz hdd
     replace hid2 := zz hid2
     replace hk' := zz hk'
     clear hds hsz hgd hk
     have hcase : (48 <= n /\ n <= 57) \/ (97 <= n /\ n <= 102) \/ (65 <= n /\ n <= 70) \/ (n < 48 \/ 57 < n /\ n < 65 \/ 70 < n /\ n < 97 \/ 102 < n) := by omega
     have hnb : ∀ M : Nat, M = N * 16 + d -> (M <= 1114111 -> v ≠ -1 -> ((M : Nat) : Int) = -1 \/ ((M : Nat) : Int) = (numFrom 16 0 (dn ++ [c]) : Nat) /\ numFrom 16 0 (dn ++ [c]) <= 1114111) := fun M hM h1 _ => .inr ⟨by rw [hsn.out, hM], by rw [hsn.out, <- hM]; exact h1⟩
     replace hnb := zz hnb
     rcases hcase with ⟨h3, h4⟩ | ⟨h3, h4⟩ | ⟨h3, h4⟩ | h3
     ·have x3 : (48 : Int) <= (n : Int) := by omega
      have x4 : (n : Int) <= 57 := by omega
      have hdv : d = n - 48 := by have := hdd.out; split at this <;> first | omega | (split at this <;> omega)
      have hdok : isDig 16 c = true := by rw [hid2.out]; exact decide_eq_true (by omega)
      have d1 : IntKind.i64.wrap ((n : Int) - 48) = (d : Int) := by rw [IntWalk.i64_in _ (by omega)]; omega
      have d2 : d < 16 := by omega
      replace hdok := zz hdok
      replace hdv := zz hdv
      rcases hv with rfl | ⟨rfl, hNb⟩
      ·go_wp2
       go_roundg rs.length
       case measure => have := hk'.out; omega
       case rel => exact ⟨dn ++ [c], rs, -1, rfl, congrArg (Value.int .i64) (by have := hnext.out.2; omega), hnext.out.1, rfl, hdig'.out hdok.out, .inl rfl, rfl⟩
      ·obtain ⟨M, hM⟩ : ∃ M, M = N * 16 := ⟨_, rfl⟩
       obtain ⟨R, hR⟩ : ∃ R, R = M + d := ⟨_, rfl⟩
       have m1 : IntKind.i64.wrap ((N : Int) * 16) = (M : Int) := by rw [IntWalk.i64_in _ (by omega)]; omega
       have m2 : IntKind.i64.wrap ((M : Int) + (d : Int)) = (R : Int) := by rw [IntWalk.i64_in _ (by omega)]; omega
       have hRR : R = N * 16 + d := by rw [hR, hM]
       have hRR := zz hRR
       replace hM := zz hM
       replace hR := zz hR
       by_cases hgt : R <= 1114111
       ·have g1 : ¬ ((1114111 : Int) < (R : Int)) := by omega
        have g2 : ¬ (1114111 < R) := by omega
        replace hgt := zz hgt
        replace hNb := zz hNb
        go_wp2
        go_roundg rs.length
        case measure => have := hk'.out; omega
        case rel => exact ⟨dn ++ [c], rs, R, (by first | rfl | exact congrArg (Value.int .i64) (by have := hRR.out; omega)), congrArg (Value.int .i64) (by have := hnext.out.2; omega), hnext.out.1, rfl, hdig'.out hdok.out, hnb.out R hRR.out hgt.out (by omega), rfl⟩
       ·have g1 : (1114111 : Int) < (R : Int) := by omega
        have g2 : 1114111 < R := by omega
        replace hgt := zz hgt
        replace hNb := zz hNb
        go_wp2
        go_roundg rs.length
        case measure => have := hk'.out; omega
        case rel => exact ⟨dn ++ [c], rs, -1, rfl, congrArg (Value.int .i64) (by have := hnext.out.2; omega), hnext.out.1, rfl, hdig'.out hdok.out, .inl rfl, rfl⟩
     ·have x3 : (97 : Int) <= (n : Int) := by omega
      have x4 : (n : Int) <= 102 := by omega
      have x5 : ¬ ((n : Int) <= 57) := by omega
      have hdv : d = n - 87 := by have := hdd.out; split at this <;> first | omega | (split at this <;> omega)
      have hdok : isDig 16 c = true := by rw [hid2.out]; exact decide_eq_true (by omega)
      have d1 : IntKind.i64.wrap ((n : Int) - 87) = (d : Int) := by rw [IntWalk.i64_in _ (by omega)]; omega
      have d2 : d < 16 := by omega
      replace hdok := zz hdok
      replace hdv := zz hdv
      rcases hv with rfl | ⟨rfl, hNb⟩
      ·go_wp2
       go_roundg rs.length
       case measure => have := hk'.out; omega
       case rel => exact ⟨dn ++ [c], rs, -1, rfl, congrArg (Value.int .i64) (by have := hnext.out.2; omega), hnext.out.1, rfl, hdig'.out hdok.out, .inl rfl, rfl⟩
      ·obtain ⟨M, hM⟩ : ∃ M, M = N * 16 := ⟨_, rfl⟩
       obtain ⟨R, hR⟩ : ∃ R, R = M + d := ⟨_, rfl⟩
       have m1 : IntKind.i64.wrap ((N : Int) * 16) = (M : Int) := by rw [IntWalk.i64_in _ (by omega)]; omega
       have m2 : IntKind.i64.wrap ((M : Int) + (d : Int)) = (R : Int) := by rw [IntWalk.i64_in _ (by omega)]; omega
       have hRR : R = N * 16 + d := by rw [hR, hM]
       have hRR := zz hRR
       replace hM := zz hM
       replace hR := zz hR
       by_cases hgt : R <= 1114111
       ·have g1 : ¬ ((1114111 : Int) < (R : Int)) := by omega
        have g2 : ¬ (1114111 < R) := by omega
        replace hgt := zz hgt
        replace hNb := zz hNb
        go_wp2
        go_roundg rs.length
        case measure => have := hk'.out; omega
        case rel => exact ⟨dn ++ [c], rs, R, (by first | rfl | exact congrArg (Value.int .i64) (by have := hRR.out; omega)), congrArg (Value.int .i64) (by have := hnext.out.2; omega), hnext.out.1, rfl, hdig'.out hdok.out, hnb.out R hRR.out hgt.out (by omega), rfl⟩
       ·have g1 : (1114111 : Int) < (R : Int) := by omega
        have g2 : 1114111 < R := by omega
        replace hgt := zz hgt
        replace hNb := zz hNb
        go_wp2
        go_roundg rs.length
        case measure => have := hk'.out; omega
        case rel => exact ⟨dn ++ [c], rs, -1, rfl, congrArg (Value.int .i64) (by have := hnext.out.2; omega), hnext.out.1, rfl, hdig'.out hdok.out, .inl rfl, rfl⟩
     ·have x3 : (65 : Int) <= (n : Int) := by omega
      have x4 : (n : Int) <= 70 := by omega
      have x5 : ¬ ((n : Int) <= 57) := by omega
      have x6 : ¬ ((97 : Int) <= (n : Int)) := by omega
      have hdv : d = n - 55 := by have := hdd.out; split at this <;> first | omega | (split at this <;> omega)
      have hdok : isDig 16 c = true := by rw [hid2.out]; exact decide_eq_true (by omega)
      have d1 : IntKind.i64.wrap ((n : Int) - 55) = (d : Int) := by rw [IntWalk.i64_in _ (by omega)]; omega
      have d2 : d < 16 := by omega
      replace hdok := zz hdok
      replace hdv := zz hdv
      rcases hv with rfl | ⟨rfl, hNb⟩
      ·go_wp2
       go_roundg rs.length
       case measure => have := hk'.out; omega
       case rel => exact ⟨dn ++ [c], rs, -1, rfl, congrArg (Value.int .i64) (by have := hnext.out.2; omega), hnext.out.1, rfl, hdig'.out hdok.out, .inl rfl, rfl⟩
      ·obtain ⟨M, hM⟩ : ∃ M, M = N * 16 := ⟨_, rfl⟩
       obtain ⟨R, hR⟩ : ∃ R, R = M + d := ⟨_, rfl⟩
       have m1 : IntKind.i64.wrap ((N : Int) * 16) = (M : Int) := by rw [IntWalk.i64_in _ (by omega)]; omega
       have m2 : IntKind.i64.wrap ((M : Int) + (d : Int)) = (R : Int) := by rw [IntWalk.i64_in _ (by omega)]; omega
       have hRR : R = N * 16 + d := by rw [hR, hM]
       have hRR := zz hRR
       replace hM := zz hM
       replace hR := zz hR
       by_cases hgt : R <= 1114111
       ·have g1 : ¬ ((1114111 : Int) < (R : Int)) := by omega
        have g2 : ¬ (1114111 < R) := by omega
        replace hgt := zz hgt
        replace hNb := zz hNb
        go_wp2
        go_roundg rs.length
        case measure => have := hk'.out; omega
        case rel => exact ⟨dn ++ [c], rs, R, (by first | rfl | exact congrArg (Value.int .i64) (by have := hRR.out; omega)), congrArg (Value.int .i64) (by have := hnext.out.2; omega), hnext.out.1, rfl, hdig'.out hdok.out, hnb.out R hRR.out hgt.out (by omega), rfl⟩
       ·have g1 : (1114111 : Int) < (R : Int) := by omega
        have g2 : 1114111 < R := by omega
        replace hgt := zz hgt
        replace hNb := zz hNb
        go_wp2
        go_roundg rs.length
        case measure => have := hk'.out; omega
        case rel => exact ⟨dn ++ [c], rs, -1, rfl, congrArg (Value.int .i64) (by have := hnext.out.2; omega), hnext.out.1, rfl, hdig'.out hdok.out, .inl rfl, rfl⟩
     ·clear hv
      rcases h3 with h3 | ⟨h3, h4⟩ | ⟨h3, h4⟩ | h3
      all_goals (
       go_wp2
       go_ret2
       exact ⟨⟨0, false, rfl, ⟨_, rfl⟩, fun h => absurd h (by decide)⟩⟩)
end
section
open Go.RowKit
theorem or64 (a b i : Nat) (hi : i <= 8) (ha : a % 2 ^ i = 0) (hb : b < 2 ^ i) (ha2 : a < 256) : bits .or .i64 (a : Int) (b : Int) = ((a + b : Nat) : Int) := by
 have h2 : 2 ^ i <= 2 ^ 8 := Nat.pow_le_pow_right (by decide) hi
 have h8 : (2 : Nat) ^ 8 = 256 := by decide
 have h24 : (2 : Int) ^ 24 = 16777216 := by decide
 have hb' : (b : Int) < 2 ^ i := by exact_mod_cast hb
 have ha' : (a : Int) % 2 ^ i = 0 := by exact_mod_cast ha
 rw [bits_join .i64 24 (by decide) (wraps_i64 24 (by decide)) i (a : Int) (b : Int) (by omega) ha' (by rw [h24]; omega) (by omega) hb' (by rw [h24]; omega)]
 simp
theorem and64_63 (r : Nat) (hr : r < 16777216) : bits .and .i64 (r : Int) 63 = ((r % 64 : Nat) : Int) := by
 have h24 : ((r : Nat) : Int) < 2 ^ 24 := by
  have h1 : (2 : Int) ^ 24 = 16777216 := by decide
  rw [h1]; omega
 have := bits_mask .i64 24 (by decide) (wraps_i64 24 (by decide)) 6 (by decide) (r : Int) (by omega) h24
 exact_mod_cast this
theorem lies_new (w : World) (l : List UInt8) : Lies (w.alloc (.cells (bv l).toArray 5)) w.heap.size 0 l := by
 intro j c hj
 rw [Nat.zero_add, (Blk.new w (bv l).toArray 5).cell]
 simp [bv, hj]
theorem shr_i (r k : Nat) (m : Int) (hm : m = (k : Nat)) : (r : Int) / m = ((r / k : Nat) : Int) := by
 subst hm; simp
theorem encode_do' (r : Nat) (hr : okR r) (w : World) : Calls Tryz.prog 177 #[.int .i64 r] w fun e w' => e = .returned (.string ⟨(u8 r).toArray⟩) /\ Old w w' := by
 unfold okR at hr
 by_cases h1 : r < 128
 ·have e1 : u8 r = [UInt8.ofNat r] := u8_ascii h1
  have hcv := Lies.conv (lies_new w (u8 r)) 1 1 (by rw [e1]; rfl)
  have hcl : (bv (u8 r)).toArray = #[.int .u8 r] := by rw [e1]; simp [bv]; omega
  rw [hcl] at hcv
  have c1 : (r : Int) % 256 = (r : Int) := by omega
  generalize (u8 r) = l at *
  clear e1 hcl
  go_enter Tryz.func177, Tryz.ntmps177
  go_wp2
  go_ret
  exact ⟨rfl, (Fr.refl _ w).alloc _⟩
 by_cases h2 : r < 2048
 ·have e1 : u8 r = [UInt8.ofNat (192 + r / 64), UInt8.ofNat (128 + r % 64)] := by unfold u8; rw [if_neg h1, if_pos h2]
  have hcv := Lies.conv (lies_new w (u8 r)) 2 2 (by rw [e1]; rfl)
  obtain ⟨A, hA⟩ : ∃ A, A = 192 + r / 64 := ⟨_, rfl⟩
  obtain ⟨B, hB⟩ : ∃ B, B = r % 64 := ⟨_, rfl⟩
  obtain ⟨C, hC⟩ : ∃ C, C = 128 + B := ⟨_, rfl⟩
  have hcl : (bv (u8 r)).toArray = #[.int .u8 A, .int .u8 C] := by rw [e1, hA, hC, hB]; simp [bv]; omega
  rw [hcl] at hcv
  have p1 : bits .or .i64 192 ((r : Int) / 64) = (A : Int) := by rw [shr_i r 64 64 rfl, hA]; exact or64 192 (r / 64) 6 (by decide) (by decide) (by have : (2:Nat) ^ 6 = 64 := (by decide); omega) (by omega)
  have p2 : bits .and .i64 (r : Int) 63 = (B : Int) := by rw [hB]; exact and64_63 r (by omega)
  have p3 : bits .or .i64 128 (B : Int) = (C : Int) := by rw [hC]; exact or64 128 B 6 (by decide) (by decide) (by have : (2:Nat) ^ 6 = 64 := (by decide); omega) (by omega)
  have c1 : (A : Int) % 256 = (A : Int) := by omega
  have c2 : (C : Int) % 256 = (C : Int) := by omega
  have i1 : ¬ ((r : Int) < 128) := by omega
  have i2 : (r : Int) < 2048 := by omega
  generalize (u8 r) = l at *
  clear e1 hcl hA hB hC
  go_enter Tryz.func177, Tryz.ntmps177
  go_wp2
  go_ret
  exact ⟨rfl, (Fr.refl _ w).alloc _⟩
 by_cases h3 : r < 65536
 ·have e1 : u8 r = [UInt8.ofNat (224 + r / 4096), UInt8.ofNat (128 + r / 64 % 64), UInt8.ofNat (128 + r % 64)] := by unfold u8; rw [if_neg h1, if_neg h2, if_pos h3]
  have hcv := Lies.conv (lies_new w (u8 r)) 3 3 (by rw [e1]; rfl)
  obtain ⟨A, hA⟩ : ∃ A, A = 224 + r / 4096 := ⟨_, rfl⟩
  obtain ⟨B, hB⟩ : ∃ B, B = r % 64 := ⟨_, rfl⟩
  obtain ⟨C, hC⟩ : ∃ C, C = 128 + B := ⟨_, rfl⟩
  obtain ⟨D, hD⟩ : ∃ D, D = r / 64 % 64 := ⟨_, rfl⟩
  obtain ⟨E, hE⟩ : ∃ E, E = 128 + D := ⟨_, rfl⟩
  have hcl : (bv (u8 r)).toArray = #[.int .u8 A, .int .u8 E, .int .u8 C] := by rw [e1, hA, hE, hD, hC, hB]; simp [bv]; omega
  rw [hcl] at hcv
  have p6 : (2:Nat) ^ 6 = 64 := by decide
  have p1 : bits .or .i64 224 ((r : Int) / 4096) = (A : Int) := by rw [shr_i r 4096 4096 rfl, hA]; exact or64 224 (r / 4096) 5 (by decide) (by decide) (by have : (2:Nat) ^ 5 = 32 := (by decide); omega) (by omega)
  have p2 : bits .and .i64 (r : Int) 63 = (B : Int) := by rw [hB]; exact and64_63 r (by omega)
  have p3 : bits .or .i64 128 (B : Int) = (C : Int) := by rw [hC]; exact or64 128 B 6 (by decide) (by decide) (by omega) (by omega)
  have p4 : bits .and .i64 ((r : Int) / 64) 63 = (D : Int) := by rw [shr_i r 64 64 rfl, hD]; exact and64_63 (r / 64) (by omega)
  have p5 : bits .or .i64 128 (D : Int) = (E : Int) := by rw [hE]; exact or64 128 D 6 (by decide) (by decide) (by omega) (by omega)
  have c1 : (A : Int) % 256 = (A : Int) := by omega
  have c2 : (C : Int) % 256 = (C : Int) := by omega
  have c3 : (E : Int) % 256 = (E : Int) := by omega
  have i1 : ¬ ((r : Int) < 128) := by omega
  have i2 : ¬ ((r : Int) < 2048) := by omega
  have i3 : (r : Int) < 65536 := by omega
  generalize (u8 r) = l at *
  clear e1 hcl hA hB hC hD hE p6
  go_enter Tryz.func177, Tryz.ntmps177
  go_wp2
  go_ret
  exact ⟨rfl, (Fr.refl _ w).alloc _⟩
 ·have e1 : u8 r = [UInt8.ofNat (240 + r / 262144), UInt8.ofNat (128 + r / 4096 % 64), UInt8.ofNat (128 + r / 64 % 64), UInt8.ofNat (128 + r % 64)] := by unfold u8; rw [if_neg h1, if_neg h2, if_neg h3]
  have hcv := Lies.conv (lies_new w (u8 r)) 4 4 (by rw [e1]; rfl)
  obtain ⟨A, hA⟩ : ∃ A, A = 240 + r / 262144 := ⟨_, rfl⟩
  obtain ⟨B, hB⟩ : ∃ B, B = r % 64 := ⟨_, rfl⟩
  obtain ⟨C, hC⟩ : ∃ C, C = 128 + B := ⟨_, rfl⟩
  obtain ⟨D, hD⟩ : ∃ D, D = r / 64 % 64 := ⟨_, rfl⟩
  obtain ⟨E, hE⟩ : ∃ E, E = 128 + D := ⟨_, rfl⟩
  obtain ⟨F, hF⟩ : ∃ F, F = r / 4096 % 64 := ⟨_, rfl⟩
  obtain ⟨G, hG⟩ : ∃ G, G = 128 + F := ⟨_, rfl⟩
  have hcl : (bv (u8 r)).toArray = #[.int .u8 A, .int .u8 G, .int .u8 E, .int .u8 C] := by rw [e1, hA, hG, hF, hE, hD, hC, hB]; simp [bv]; omega
  rw [hcl] at hcv
  have p6 : (2:Nat) ^ 6 = 64 := by decide
  have p1 : bits .or .i64 240 ((r : Int) / 262144) = (A : Int) := by rw [shr_i r 262144 262144 rfl, hA]; exact or64 240 (r / 262144) 4 (by decide) (by decide) (by have : (2:Nat) ^ 4 = 16 := (by decide); omega) (by omega)
  have p2 : bits .and .i64 (r : Int) 63 = (B : Int) := by rw [hB]; exact and64_63 r (by omega)
  have p3 : bits .or .i64 128 (B : Int) = (C : Int) := by rw [hC]; exact or64 128 B 6 (by decide) (by decide) (by omega) (by omega)
  have p4 : bits .and .i64 ((r : Int) / 64) 63 = (D : Int) := by rw [shr_i r 64 64 rfl, hD]; exact and64_63 (r / 64) (by omega)
  have p5 : bits .or .i64 128 (D : Int) = (E : Int) := by rw [hE]; exact or64 128 D 6 (by decide) (by decide) (by omega) (by omega)
  have p7 : bits .and .i64 ((r : Int) / 4096) 63 = (F : Int) := by rw [shr_i r 4096 4096 rfl, hF]; exact and64_63 (r / 4096) (by omega)
  have p8 : bits .or .i64 128 (F : Int) = (G : Int) := by rw [hG]; exact or64 128 F 6 (by decide) (by decide) (by omega) (by omega)
  have c1 : (A : Int) % 256 = (A : Int) := by omega
  have c2 : (C : Int) % 256 = (C : Int) := by omega
  have c3 : (E : Int) % 256 = (E : Int) := by omega
  have c4 : (G : Int) % 256 = (G : Int) := by omega
  have i1 : ¬ ((r : Int) < 128) := by omega
  have i2 : ¬ ((r : Int) < 2048) := by omega
  have i3 : ¬ ((r : Int) < 65536) := by omega
  generalize (u8 r) = l at *
  clear e1 hcl hA hB hC hD hE hF hG p6
  go_enter Tryz.func177, Tryz.ntmps177
  go_wp2
  go_ret
  exact ⟨rfl, (Fr.refl _ w).alloc _⟩
end
end Go.Proofs.YtepbbahdhhjibaaGreatDoor
