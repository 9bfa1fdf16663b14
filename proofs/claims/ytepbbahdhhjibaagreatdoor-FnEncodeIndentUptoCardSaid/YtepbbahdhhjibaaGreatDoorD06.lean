/- own text -/
import Derived.Deep.LoopGhost
import Derived.OwnWalk
import Derived.Lib.BufferRead
import Derived.Lib.ConvBytes
import Derived.Deep.Cut
import Derived.Test.YtepbbahdhhjibaaGreatDoorD04
import Derived.Test.YtepbbahdhhjibaaGreatDoorD05
namespace Go.Proofs.YtepbbahdhhjibaaGreatDoor
set_option linter.unusedSimpArgs false
set_option linter.unusedVariables false
set_option maxHeartbeats 4000000
set_option maxRecDepth 100000
section
open Go.RowKit
theorem oldOf {w w' : World} (h : Go.RowKit.Below w.heap.size w w') : Old w w' := Go.Proofs.YtepbbahdhhjibaaGreatDoor.Below.toOld h
def nSt (r : Nat) : Bool := decide (r = 58 \/ 65 <= r /\ r <= 90 \/ r = 95 \/ 97 <= r /\ r <= 122 \/ 192 <= r /\ r <= 214 \/ 216 <= r /\ r <= 246 \/ 248 <= r /\ r <= 255)
def nC2 (r : Nat) : Bool := decide (45 <= r /\ r <= 46 \/ 48 <= r /\ r <= 57 \/ r = 183)
def nCt (r : Nat) : Bool := nSt r || nC2 r
def fTab : Lib.RTab := { r16 := firstT.toArray, r32 := #[], off := 0 }
def sTab : Lib.RTab := { r16 := secondT.toArray, r32 := #[], off := 0 }
theorem rng_get (l : List (Nat × Nat × Nat)) (i : Nat) (h : i < l.length) : (rngCells l)[i * 3]? = some (.int .u16 l[i].1) /\ (rngCells l)[i * 3 + 1]? = some (.int .u16 l[i].2.1) /\ (rngCells l)[i * 3 + 2]? = some (.int .u16 l[i].2.2) := by
 induction l generalizing i with
 | nil => simp at h
 | cons a l ih =>
  cases i with
  | zero => simp [rngCells]
  | succ i =>
   have := ih i (by simpa using h)
   have e : (i + 1) * 3 = i * 3 + 1 + 1 + 1 := by omega
   rw [e]
   simpa [rngCells] using this
theorem tab_at {w : World} {l : List (Nat × Nat × Nat)} {T R n : Nat} (hT : Blk w T #[.slice (some ⟨R, 0, none⟩) n n, .slice none 0 0, .int .i64 0] 249) (hR : Blk w R (rngCells l).toArray 253) (hn : l.length = n) :
  Lib.RTabAt T 0 { r16 := l.toArray, r32 := #[], off := 0 } w := by
 subst hn
 refine ⟨some ⟨R, 0, none⟩, none, R, 0, l.length, 0, 0, 0, ?_, ?_, ?_, fun _ => rfl, fun h => absurd h (by simp), ?_, fun i hi => absurd hi (by simp), by simp⟩
 ·simpa using hT.cell 0
 ·simpa using hT.cell 1
 ·simpa using hT.cell 2
 ·intro i hi
  have hi' : i < l.length := by simpa using hi
  have := rng_get l i hi'
  rw [hR.cell, hR.cell, hR.cell]
  simp only [List.getElem?_toArray, Nat.zero_add]
  rw [this.1, this.2.1, this.2.2]
  simp [Array.getD, hi']
theorem fTab_ok : Lib.RTabOk fTab := Lib.RTabOk_of_B (by decide +kernel)
theorem sTab_ok : Lib.RTabOk sTab := Lib.RTabOk_of_B (by decide +kernel)
theorem fTab_is : ∀ r : Fin 256, Lib.isGo fTab (r.val : Int) = nSt r.val := by decide +kernel
theorem sTab_is : ∀ r : Fin 256, Lib.isGo sTab (r.val : Int) = nC2 r.val := by decide +kernel
theorem first_at (w : World) : Calls Tryz.prog 107 #[] w fun e w' => ∃ T, e = .returned (.pointer (some ⟨T, 0, none⟩)) /\ Old w w' /\ Lib.RTabAt T 0 fTab w' := by
 refine (first_do w).mono ?_
 rintro e w1 ⟨rfl, rfl⟩
 refine ⟨_, rfl, ((Fr.refl _ w).alloc _).alloc _, tab_at (R := w.heap.size) (n := 190) ?_ ?_ (by decide)⟩
 ·have := Blk.new (w.alloc (.cells (rngCells firstT).toArray 253)) #[.slice (some ⟨w.heap.size, 0, none⟩) 190 190, .slice none 0 0, .int .i64 0] 249
  simpa using this
 ·exact (Blk.new w _ _).alloc _
theorem second_at (w : World) : Calls Tryz.prog 108 #[] w fun e w' => ∃ T, e = .returned (.pointer (some ⟨T, 0, none⟩)) /\ Old w w' /\ Lib.RTabAt T 0 sTab w' := by
 refine (second_do w).mono ?_
 rintro e w1 ⟨rfl, rfl⟩
 refine ⟨_, rfl, ((Fr.refl _ w).alloc _).alloc _, tab_at (R := w.heap.size) (n := 112) ?_ ?_ (by decide)⟩
 ·have := Blk.new (w.alloc (.cells (rngCells secondT).toArray 253)) #[.slice (some ⟨w.heap.size, 0, none⟩) 112 112, .slice none 0 0, .int .i64 0] 249
  simpa using this
 ·exact (Blk.new w _ _).alloc _
theorem is_first (T r : Nat) (w : World) (hr : r < 256) (h : Lib.RTabAt T 0 fTab w) : Calls Tryz.prog 106 #[.pointer (some ⟨T, 0, none⟩), .int .i32 r] w fun e w' => e = .returned (.bool (nSt r)) /\ Old w w' := by
 refine (Tryz.unicode_Is T 0 fTab r w (by omega) (by omega) h fTab_ok).mono ?_
 rintro e w1 ⟨rfl, h1⟩
 rw [fTab_is ⟨r, hr⟩]
 exact ⟨rfl, oldOf h1⟩
theorem is_second (T r : Nat) (w : World) (hr : r < 256) (h : Lib.RTabAt T 0 sTab w) : Calls Tryz.prog 106 #[.pointer (some ⟨T, 0, none⟩), .int .i32 r] w fun e w' => e = .returned (.bool (nC2 r)) /\ Old w w' := by
 refine (Tryz.unicode_Is T 0 sTab r w (by omega) (by omega) h sTab_ok).mono ?_
 rintro e w1 ⟨rfl, h1⟩
 rw [sTab_is ⟨r, hr⟩]
 exact ⟨rfl, oldOf h1⟩
theorem nCt_lt {r : Nat} (h : nCt r = true) : r < 256 := by simp [nCt, nSt, nC2] at h; omega
theorem nSt_lt {r : Nat} (h : nSt r = true) : r < 256 := by simp [nSt] at h; omega
theorem nCt_ok {r : Nat} (h : nCt r = true) : okR r := by have := nCt_lt h; unfold okR; omega
def nb (l : List Nat) : List UInt8 := l.flatMap u8
theorem nb_cons (r : Nat) (t : List Nat) : nb (r :: t) = u8 r ++ nb t := rfl
theorem nb_append (s t : List Nat) : nb (s ++ t) = nb s ++ nb t := by simp [nb]
def Lies (w : World) (b o : Nat) (l : List UInt8) : Prop := ∀ j c, l[j]? = some c -> w.cell? ⟨b, o + j, none⟩ = some (.int .u8 c.toNat)
theorem Lies.old {w w' : World} {b o : Nat} {l : List UInt8} (h : Lies w b o l) (ho : Old w w') : Lies w' b o l := fun j c hj => ho.cell (h j c hj)
theorem Lies.drop {w : World} {b o : Nat} {l m : List UInt8} (h : Lies w b o (l ++ m)) : Lies w b (o + l.length) m := fun j c hj => by
 rw [Nat.add_assoc]
 exact h _ c (by rw [List.getElem?_append_right (by omega)]; simpa using hj)
theorem decRune (r : Nat) (hr : okR r) (t : List UInt8) (b o n cap : Nat) (w : World) (hu : UT w) (hl : Lies w b o (u8 r ++ t)) (hn : n = (u8 r ++ t).length) :
  Calls Tryz.prog 100 #[.slice (some ⟨b, o, none⟩) n cap] w fun e w' => e = .returned (.tuple #[.int .i32 r, .int .i64 (u8 r).length]) /\ Old w w' := by
 have hd : (⟨(u8 r ++ t).toArray⟩ : ByteArray).data.toList = u8 r ++ t := by simp
 have hsz : (⟨(u8 r ++ t).toArray⟩ : ByteArray).size = n := by rw [Lib.size_eq, hd, hn]
 have := Tryz.utf8_DecodeRune ⟨(u8 r ++ t).toArray⟩ b o cap w hu (by
  intro j hj
  rw [hsz, hn] at hj
  have : (⟨(u8 r ++ t).toArray⟩ : ByteArray).get! j = (u8 r ++ t)[j] := by
   show (u8 r ++ t).toArray[j]! = _
   rw [getElem!_pos _ j (by simpa using hj)]
   simp
  rw [this]
  exact hl j _ (List.getElem?_eq_getElem hj))
 rw [hsz, decodeGo_u8 r hr t _ hd] at this
 refine this.mono ?_
 rintro e w1 ⟨rfl, h1⟩
 exact ⟨rfl, oldOf h1⟩
end
section
open Go.RowKit
theorem r_ne {r : Nat} (h : r < 256) : ((r : Int) == 65533) = false := by rw [beq_eq_false_iff_ne]; omega
theorem isName_do (r : Nat) (t : List Nat) (g o n cap : Nat) (w : World) (hr : nSt r = true) (ht : ∀ x ∈ t, nCt x = true) (hu : UT w) (hl : Lies w g o (nb (r :: t))) (hn : n = (nb (r :: t)).length) (hcap : n <= cap) (hmax : n <= 1099511627776) :
  Calls Tryz.prog 141 #[.slice (some ⟨g, o, none⟩) n cap] w fun e w' => e = .returned (.bool true) /\ Old w w' := by
 have hlen : n = (u8 r).length + (nb t).length := by rw [hn, nb_cons, List.length_append]
 have h1 := (u8_len r).1
 have e0 : ((n : Int) == 0) = false := by rw [beq_eq_false_iff_ne]; omega
 have hr256 := nSt_lt hr
 have e1 := r_ne hr256
 have hd := (decRune r (nCt_ok (by simp [nCt, hr])) (nb t) g o n cap w hu hl hn).mono (R' := fun e w' => e = .returned (.tuple #[.int .i32 r, .int .i64 (u8 r).length]) /\ Hid (Old w w')) (fun _ _ h => h)
 have hu' := zz hu
 have hl' := zz hl
 have ht' := zz ht
 clear hl hu ht hn
 obtain ⟨q, hq⟩ : ∃ q, q = (u8 r).length := ⟨_, rfl⟩
 rw [<- hq] at hd hlen h1
 replace hq := zz hq
 replace hlen := zz hlen
 go_enter Tryz.func141, Tryz.ntmps141
 go_wp2_with (first | (go_at_call 100; refine hd.mono ?_; rintro e w1 ⟨rfl, k1⟩) | (go_at_call 107; refine (first_at _).mono ?_; rintro e w2 ⟨T, rfl, k2, k3⟩; have k2 := zz k2; have k3 := zz k3) | (go_at_call 106; refine (is_first T r _ hr256 k3.out).mono ?_; rintro e w3 ⟨rfl, k4⟩; rw [hr]; have k4 := zz k4))
 go_loopg [0, 3, 4] t.length (fun k s c z wr => ∃ (r : Nat) (t : List Nat) (o m cap : Nat), s = .slice (some ⟨g, o, none⟩) m cap /\ z = .int .i64 (u8 r).length /\ m = (u8 r).length + (nb t).length /\ m <= cap /\ m <= 1099511627776 /\ Lies wr g o (nb (r :: t)) /\ Old w wr /\ t.length = k /\ ∀ x ∈ t, nCt x = true)
 case atStart =>
  have ho := (k1.out.old k2.out).old k4.out
  exact ⟨r, t, o, n, cap, rfl, by rw [hq.out], by rw [<- hq.out]; exact hlen.out, hcap, hmax, hl'.out.old ho, ho, rfl, ht'.out⟩
 case round =>
  obtain ⟨r, t, o, m, cap, rfl, rfl, hm, hc, hmx, hL, hO, hk, hT⟩ := hrel
  clear k1 k2 k3 k4 hd hl' ht' e1 hr hr256 hcap hmax hlen h1 e0 hq
  have hul := (u8_len r).1
  cases t with
  | nil =>
   have e3 : ¬ (((u8 r).length : Int) < (m : Int)) := by simp [nb] at hm; omega
   replace hO := zz hO
   clear hL hm
   go_wp2
   go_ret
   exact ⟨rfl, hO.out⟩
  | cons r2 t2 =>
   have hul2 := (u8_len r2).1
   have hm' : m = (u8 r).length + ((u8 r2).length + (nb t2).length) := by rw [hm, nb_cons, List.length_append]
   have e3 : ((u8 r).length : Int) < (m : Int) := by omega
   have hn2 := hT r2 (by simp)
   have hr2 := nCt_lt hn2
   have e4 := r_ne hr2
   have hL2 : Lies wr g (o + (u8 r).length) (u8 r2 ++ nb t2) := by rw [nb_cons] at hL; exact hL.drop
   have huw : UT wr := hu'.out.fr hO (fun h => h) (fun h => h)
   have hmn : m - (u8 r).length = (u8 r2).length + (nb t2).length := by omega
   have hd := (decRune r2 (nCt_ok hn2) (nb t2) g (o + (u8 r).length) (m - (u8 r).length) (cap - (u8 r).length) wr huw hL2 (by rw [List.length_append]; omega)).mono (R' := fun e w' => e = .returned (.tuple #[.int .i32 r2, .int .i64 (u8 r2).length]) /\ Hid (Old wr w')) (fun _ _ h => h)
   replace hO := zz hO
   replace hL2 := zz hL2
   replace hT := zz hT
   replace hk := zz hk
   clear hL huw hm
   generalize hq : (u8 r).length = q at *
   obtain ⟨q2, hq2⟩ : ∃ q2, q2 = (u8 r2).length := ⟨_, rfl⟩
   rw [<- hq2] at hd hm' hul2 hmn
   replace hq2 := zz hq2
   replace hq := zz hq
   replace hm' := zz hm'
   replace hmn := zz hmn
   by_cases hs : nSt r2 = true
   ·go_wp2_with (first | (go_at_call 100; refine hd.mono ?_; rintro e w1 ⟨rfl, k1⟩) | (go_at_call 107; refine (first_at _).mono ?_; rintro e w2 ⟨T, rfl, k2, k3⟩; have k2 := zz k2; have k3 := zz k3) | (go_at_call 106; refine (is_first T r2 _ hr2 k3.out).mono ?_; rintro e w3 ⟨rfl, k4⟩; rw [hs]; have k4 := zz k4))
    go_roundg t2.length
    case measure => have hk := hk.out; simp at hk; omega
    case rel =>
     have ho := (k1.out.old k2.out).old k4.out
     exact ⟨r2, t2, o + q, m - q, cap - q, rfl, by rw [hq2.out], by rw [<- hq2.out]; exact hmn.out, by omega, by omega, hL2.out.old ho, hO.out.old ho, rfl, fun x hx => hT.out x (by simp [hx])⟩
   ·have hs : nSt r2 = false := by simpa using hs
    have hs2 : nC2 r2 = true := by simpa [nCt, hs] using hn2
    go_wp2_with (first | (go_at_call 100; refine hd.mono ?_; rintro e w1 ⟨rfl, k1⟩) | (go_at_call 107; refine (first_at _).mono ?_; rintro e w2 ⟨T, rfl, k2, k3⟩; have k2 := zz k2; have k3 := zz k3) | (go_at_call 108; refine (second_at _).mono ?_; rintro e w4 ⟨T, rfl, k5, k6⟩; have k5 := zz k5; have k6 := zz k6) | (go_at_call 106; refine (is_first T r2 _ hr2 k3.out).mono ?_; rintro e w3 ⟨rfl, k4⟩; rw [hs]; have k4 := zz k4; clear k3) | (go_at_call 106; refine (is_second T r2 _ hr2 k6.out).mono ?_; rintro e w5 ⟨rfl, k7⟩; rw [hs2]; have k7 := zz k7))
    go_roundg t2.length
    case measure => have hk := hk.out; simp at hk; omega
    case rel =>
     have ho := (((k1.out.old k2.out).old k4.out).old k5.out).old k7.out
     exact ⟨r2, t2, o + q, m - q, cap - q, rfl, by rw [hq2.out], by rw [<- hq2.out]; exact hmn.out, by omega, by omega, hL2.out.old ho, hO.out.old ho, rfl, fun x hx => hT.out x (by simp [hx])⟩
end
section
open Go.RowKit
theorem no_colon {s : ByteArray} (h : ∀ b ∈ s.data.toList, b ≠ 58) (i : Nat) (hi : i < s.size) : ((s.extract i (i + 1)).toList == [58]) = false := by
 rw [beq_eq_false_iff_ne, Go.ByteArray.toList_eq]
 intro h1
 have h2 : (s.extract i (i + 1)).data.toList = [s.data[i]'hi] := by
  rw [ByteArray.data_extract]
  simp only [Array.toList_extract]
  rw [List.extract_eq_take_drop]
  simp only [Nat.add_sub_cancel_left]
  rw [List.drop_eq_getElem_cons (by simpa using hi)]
  simp
 rw [h2] at h1
 have h3 : s.data[i]'hi = 58 := by simpa using h1
 exact h _ (by rw [<- h3]; simp) rfl
theorem zzCount_no (s : ByteArray) (w : World) (h : ∀ b ∈ s.data.toList, b ≠ 58) (hs : s.size <= 1099511627776) :
  Calls Tryz.prog 156 #[.string s, .string ⟨#[58]⟩] w fun e w' => e = .returned (.int .i64 0) /\ w' = w := by
 have hn := no_colon h
 replace hn := zz hn
 clear h
 go_enter Tryz.func156, Tryz.ntmps156
 go_wp2
 go_loopg [5, 6] s.size (fun k c i wr => ∃ m : Nat, c = .int .i64 0 /\ i = .int .i64 m /\ m + k = s.size /\ wr = w)
 case atStart => exact ⟨0, rfl, rfl, by omega, rfl⟩
 case round =>
  obtain ⟨m, rfl, rfl, hm, rfl⟩ := hrel
  have e1 : IntKind.i64.wrap ((m : Int) + 1) = m + 1 := IntWalk.i64_in _ (by omega)
  by_cases hlt : m < s.size
  ·have hf := hn.out m hlt
   go_wp2
   go_roundg (gk - 1)
   case measure => omega
   case rel => exact ⟨m + 1, rfl, rfl, by omega, rfl⟩
  ·go_wp2
   go_ret
   exact ⟨rfl, rfl⟩
theorem zzIndex_no (s : ByteArray) (w : World) (h : ∀ b ∈ s.data.toList, b ≠ 58) (hs : s.size <= 1099511627776) :
  Calls Tryz.prog 160 #[.string s, .string ⟨#[58]⟩] w fun e w' => e = .returned (.int .i64 (-1)) /\ w' = w := by
 have hn := no_colon h
 replace hn := zz hn
 clear h
 go_enter Tryz.func160, Tryz.ntmps160
 go_wp2
 go_loopg [5] s.size (fun k i wr => ∃ m : Nat, i = .int .i64 m /\ m + k = s.size /\ wr = w)
 case atStart => exact ⟨0, rfl, by omega, rfl⟩
 case round =>
  obtain ⟨m, rfl, hm, rfl⟩ := hrel
  have e1 : IntKind.i64.wrap ((m : Int) + 1) = m + 1 := IntWalk.i64_in _ (by omega)
  by_cases hlt : m < s.size
  ·have hf := hn.out m hlt
   go_wp2
   go_roundg (gk - 1)
   case measure => omega
   case rel => exact ⟨m + 1, rfl, by omega, rfl⟩
  ·go_wp2
   go_ret
   exact ⟨rfl, rfl⟩
theorem zzCut_no (s : ByteArray) (w : World) (h : ∀ b ∈ s.data.toList, b ≠ 58) (hs : s.size <= 1099511627776) :
  Calls Tryz.prog 157 #[.string s, .string ⟨#[58]⟩] w fun e w' => e = .returned (.tuple #[.string s, .string ⟨#[]⟩, .bool false]) /\ w' = w := by
 have hc := zzIndex_no s w h hs
 clear h
 go_enter Tryz.func157, Tryz.ntmps157
 go_wp2_with (go_at_call 160; refine hc.mono ?_; rintro e w1 ⟨rfl, rfl⟩)
 go_ret3
 exact ⟨rfl, rfl⟩
end
section
open Go.RowKit
theorem BufRow.str {w : World} {v : Value} {bs : List UInt8} (h : BufRow w v bs) (n : Nat) : (convert 56 9 v).run Tryz.prog (w.drewN n) = .ok (.string ⟨bs.toArray⟩) (w.drewN n) := by
 rcases h with ⟨rfl, rfl⟩ | ⟨g, cap, cells, rfl, hg, hcs, hle, hcm, h64, ht⟩
 ·exact Lib.run_convert_nil_bytes _ 56 9 5 0 Tryz.underlying56 Tryz.underlying5 Tryz.underlying9
 ·exact run_convert_bytes_back _ 56 9 5 ⟨g, 0, none⟩ cap bs Tryz.underlying56 Tryz.underlying5 Tryz.underlying9 (Lib.bytes_of_row (w := w.drewN n) hg (by rw [ht]; rfl))
theorem BufRow.lies {w : World} {g l cap : Nat} {bs : List UInt8} (h : BufRow w (.slice (some ⟨g, 0, none⟩) l cap) bs) : l = bs.length /\ l <= cap /\ Lies w g 0 bs := by
 rcases h with ⟨h, _⟩ | ⟨g', cap', cells, he, hg, hcs, hle, hcm, h64, ht⟩
 ·cases h
 ·simp only [Value.slice.injEq, Option.some.injEq, Addr.mk.injEq] at he
  obtain ⟨⟨rfl, _⟩, rfl, rfl⟩ := he
  refine ⟨rfl, hle, fun j c hj => ?_⟩
  obtain ⟨hj', rfl⟩ := List.getElem?_eq_some_iff.1 hj
  have := Lib.bytes_of_row (w := w) hg (by rw [ht]; rfl) j hj'
  rwa [Lib.addr_add] at this
theorem nmB_nb {l : List Nat} (h : ∀ x ∈ l, nCt x = true) : ∀ b ∈ nb l, nmB b = true := by
 intro b hb
 obtain ⟨r, hr, hb⟩ := List.mem_flatMap.1 hb
 have h1 := h r hr
 have h2 := nCt_lt h1
 unfold u8 at hb
 simp only [nCt, nSt, nC2, Bool.or_eq_true, decide_eq_true_eq] at h1
 simp only [nmB, isNB, Bool.or_eq_true, decide_eq_true_eq]
 split at hb
 ·simp only [List.mem_singleton] at hb
  subst hb
  rw [ofNat_toNat (by omega)]
  omega
 ·rw [if_pos (by omega)] at hb
  simp only [List.mem_cons, List.not_mem_nil, or_false] at hb
  rcases hb with rfl | rfl
  ·rw [ofNat_toNat (by omega)]; omega
  ·rw [ofNat_toNat (by omega)]; omega
structure NameOk (l : List Nat) : Prop where
 ne : ∃ r t, l = r :: t /\ nSt r = true /\ ∀ x ∈ t, nCt x = true
 nc : 58 ∉ l
theorem NameOk.all {l : List Nat} (h : NameOk l) : ∀ x ∈ l, nCt x = true := by
 obtain ⟨r, t, rfl, h1, h2⟩ := h.ne
 intro x hx
 rcases List.mem_cons.1 hx with rfl | hx
 ·simp [nCt, h1]
 ·exact h2 x hx
theorem NameOk.nb_ne {l : List Nat} (h : NameOk l) : nb l ≠ [] := by
 obtain ⟨r, t, rfl, h1, h2⟩ := h.ne
 have := (u8_len r).1
 rw [nb_cons]
 intro e
 have := congrArg List.length e
 simp only [List.length_append, List.length_nil] at this
 omega
theorem NameOk.nb_nc {l : List Nat} (h : NameOk l) : ∀ b ∈ nb l, b ≠ 58 := by
 intro b hb e
 obtain ⟨r, hr, hb⟩ := List.mem_flatMap.1 hb
 have h1 := h.all r hr
 have h2 := nCt_lt h1
 subst e
 unfold u8 at hb
 have e58 : (58 : UInt8).toNat = 58 := rfl
 split at hb
 ·simp only [List.mem_singleton] at hb
  have := congrArg UInt8.toNat hb
  rw [ofNat_toNat (by omega), e58] at this
  exact h.nc (this ▸ hr)
 ·rw [if_pos (by omega)] at hb
  simp only [List.mem_cons, List.not_mem_nil, or_false] at hb
  rcases hb with hb | hb
  ·have := congrArg UInt8.toNat hb
   rw [ofNat_toNat (by omega), e58] at this; omega
  ·have := congrArg UInt8.toNat hb
   rw [ofNat_toNat (by omega), e58] at this; omega
theorem name_do (E : Dx) (p : Pa) (v : Value) (bs : List UInt8) (nm : List Nat) (c : UInt8) (t : List UInt8) (w : World) (hnm : NameOk nm) (hc : nmB c = false) (h : Dec E w p v bs true false (nb nm ++ c :: t))
  (hl : (nb nm).length <= 1099511627776) :
  Calls Tryz.prog 117 #[.pointer (some ⟨E.D, 0, none⟩)] w fun e w' => e = .returned (.tuple #[.string ⟨(nb nm).toArray⟩, .bool true]) /\ ∃ v', v' ≠ .slice none 0 0 /\ Dec E w' p v' (nb nm) true false (c :: t) /\ St E w v w' v' := by
 have h1 := (breset E p v bs _ true false w h).mono (R' := fun e w' => e = .returned (.tuple #[]) /\ Hid (∃ v', Dec E w' p v' [] true false (nb nm ++ c :: t) /\ St E w v w' v')) (by
  rintro e w1 ⟨rfl, v', g1, g2, _⟩; exact ⟨rfl, v', g1, g2⟩)
 have h2 : ∀ w1 v1, Dec E w1 p v1 [] true false (nb nm ++ c :: t) -> Calls Tryz.prog 153 #[.pointer (some ⟨E.D, 0, none⟩)] w1 fun e w' => e = .returned (.bool true) /\ ∃ v', Dec E w' p v' (nb nm) true false (c :: t) /\ St E w1 v1 w' v' := fun w1 v1 hd =>
  readName_do E p v1 [] (nb nm) c t w1 (nmB_nb hnm.all) hnm.nb_ne hc hd (by simpa using hl)
 have h3 : ∀ w2 v2 n, Dec E w2 p v2 (nb nm) true false (c :: t) -> Calls Tryz.prog 141 #[v2] (w2.drewN n) fun e w' => e = .returned (.bool true) /\ Old w2 w' := fun w2 v2 n hd => by
  have hne := hnm.nb_ne
  obtain ⟨r, tl, rfl, q1, q2⟩ := hnm.ne
  have hr := hd.row
  rcases hr with ⟨_, h⟩ | ⟨g, cap, cells, rfl, hr⟩
  ·exact absurd h hne
  ·obtain ⟨k1, k2, k3⟩ := BufRow.lies hd.row
   refine (isName_do r tl g 0 _ cap (w2.drewN n) q1 q2 hd.ut k3 rfl k2 hl).mono ?_
   rintro e w1 ⟨rfl, ho⟩
   exact ⟨rfl, ((Fr.refl _ w2).drewN n).old ho⟩
 have hne := hnm.nb_ne
 clear h hnm hc hl
 generalize nb nm = l at *
 replace h2 := zz h2
 replace h3 := zz h3
 replace hne := zz hne
 go_enter Tryz.func117, Tryz.ntmps117
 go_wp2_with (first | (go_at_call 118; refine h1.mono ?_; rintro e w1 ⟨rfl, k1⟩; obtain ⟨v1, d1, s1⟩ := k1.out; replace d1 := zz d1; replace s1 := zz s1) | (go_at_call 153; refine (h2.out _ _ d1.out).mono ?_; rintro e w2 ⟨rfl, k2⟩; obtain ⟨v2, d2, s2⟩ := k2; have hcv := d2.row.str; replace d2 := zz d2; replace s2 := zz s2) |
  (go_at_call 120; refine (bbytes E p v2 _ _ _ _ _ d2.out).mono ?_; rintro e w3 ⟨rfl, nq, rfl⟩) | (go_at_call 141; refine (h3.out _ _ nq d2.out).mono ?_; rintro e w4 ⟨rfl, k4⟩; have hcv4 := (d2.out.old k4).row.str 0; rw [show w4.drewN 0 = w4 from rfl] at hcv4; replace k4 := zz k4))
 go_ret2
 refine ⟨rfl, v2, ?_, d2.out.old k4.out, (s1.out.trans s2.out).trans ⟨Fr.of_old k4.out, Nw.refl _ _⟩⟩
 intro e
 rcases d2.out.row with ⟨_, h⟩ | ⟨g, cap, cells, h, hr⟩
 ·exact hne.out h
 ·rw [e] at h; cases h
theorem nsname_do (E : Dx) (p : Pa) (v : Value) (bs : List UInt8) (nm : List Nat) (c : UInt8) (t : List UInt8) (w : World) (hnm : NameOk nm) (hc : nmB c = false) (h : Dec E w p v bs true false (nb nm ++ c :: t))
  (hl : (nb nm).length <= 1099511627776) :
  Calls Tryz.prog 115 #[.pointer (some ⟨E.D, 0, none⟩)] w fun e w' => e = .returned (.tuple #[.agg #[.string ⟨#[]⟩, .string ⟨(nb nm).toArray⟩], .bool true]) /\ ∃ v', v' ≠ .slice none 0 0 /\ Dec E w' p v' (nb nm) true false (c :: t) /\ St E w v w' v' := by
 have h1 : ∀ (w1 : World), Old w w1 -> w.heap.size < w1.heap.size -> Blk w1 w.heap.size #[.string ⟨#[]⟩, .string ⟨#[]⟩] 105 -> Calls Tryz.prog 117 #[.pointer (some ⟨E.D, 0, none⟩)] w1 fun e w2 => e = .returned (.tuple #[.string ⟨(nb nm).toArray⟩, .bool true]) /\
   w2.cell? ⟨w.heap.size, 0, none⟩ = some (.string ⟨#[]⟩) /\ (∃ x, w2.cell? ⟨w.heap.size, 1, none⟩ = some x) /\ w2.frozen? ⟨w.heap.size, 0, none⟩ = false /\ w2.frozen? ⟨w.heap.size, 1, none⟩ = false /\
   ∃ v', v' ≠ .slice none 0 0 /\ Dec E w2 p v' (nb nm) true false (c :: t) /\ St E w v w2 v' /\ v'.ownBlock ≠ some w.heap.size /\ Blk w2 w.heap.size #[.string ⟨#[]⟩, .string ⟨#[]⟩] 105 := by
  intro w1 ho hlt hb
  refine (name_do E p v bs nm c t w1 hnm hc (h.old ho) hl).mono ?_
  rintro e w2 ⟨rfl, v', q0, q1, q2⟩
  have hb2 := hb.keep q2.fr (fun hx => Nat.lt_irrefl _ (h.own_lt _ hx))
  refine ⟨rfl, by rw [hb2.cell]; rfl, ⟨_, hb2.cell 1⟩, hb2.fz _, hb2.fz _, v', q0, q1, (St.trans ⟨Fr.of_old ho, Nw.refl _ _⟩ q2), fun hx => ?_, hb2⟩
  rcases q2.nw _ hx with hx | hx
  ·exact Nat.lt_irrefl _ (h.own_lt _ (.inr hx))
  ·omega
 have h2 := fun w2 => zzCount_no ⟨(nb nm).toArray⟩ w2 hnm.nb_nc (by rw [Lib.size_eq]; exact hl)
 have h3 := fun w2 => zzCut_no ⟨(nb nm).toArray⟩ w2 hnm.nb_nc (by rw [Lib.size_eq]; exact hl)
 have hrd : ∀ x, E.rd x -> x ≠ w.heap.size := fun x hx e => Nat.lt_irrefl _ (e ▸ h.own_lt x (.inl hx))
 have h5 : 5 <= w.heap.size := by have := h.n0; have := h.blocks; omega
 clear hnm hc hl h
 generalize nb nm = l at *
 replace h1 := zz h1
 replace h2 := zz h2
 replace h3 := zz h3
 replace hrd := zz hrd
 go_enter Tryz.func115, Tryz.ntmps115
 go_wp2_with (first | (go_at_call 117; refine (h1.out _ ((Fr.refl _ w).alloc _) (by simp) (Blk.new _ _ _)).mono ?_; rintro e w1 ⟨rfl, c0, ⟨x1, c1⟩, f0, f1, k1⟩; replace k1 := zz k1) | (go_at_call 156; refine (h2.out _).mono ?_; rintro e w2 ⟨rfl, rfl⟩) | (go_at_call 157; refine (h3.out _).mono ?_; rintro e w3 ⟨rfl, rfl⟩))
 obtain ⟨v', q0, q1, q2, q3, hb⟩ := k1.out
 have b3 := ((hb.set 1 (.string ⟨l.toArray⟩)).set 0 (.string ⟨#[]⟩)).set 1 (.string ⟨l.toArray⟩)
 have e0 := b3.cell 0
 have e1 := b3.cell 1
 simp only [List.setIfInBounds_toArray, List.set_cons_zero, List.set_cons_succ, List.getElem?_toArray, List.getElem?_cons_zero, List.getElem?_cons_succ] at e0 e1
 refine bodyPost_ret (by rw [results_cell_tmp rfl]; go_simp; try rfl) rfl ?_
 refine ⟨rfl, v', q0, ?_, ?_⟩
 ·refine q1.out (F := fun x => x = w.heap.size) ((((Fr.refl (fun x => x = w.heap.size) _).set (Or.inl rfl) _ _).set (Or.inl rfl) _ _).set (Or.inl rfl) _ _) (fun x hx e => by omega) ?_
  rintro x (hx | hx) rfl
  ·exact hrd.out _ hx rfl
  ·exact q3 hx
 ·exact ⟨((q2.fr.set (Or.inr (Nat.le_refl _)) _ _).set (Or.inr (Nat.le_refl _)) _ _).set (Or.inr (Nat.le_refl _)) _ _, q2.nw⟩
end
section
open Go.RowKit
def isDig (base : Nat) (c : UInt8) : Bool := decide (48 <= c.toNat /\ c.toNat <= 57 \/ base = 16 /\ (97 <= c.toNat /\ c.toNat <= 102 \/ 65 <= c.toNat /\ c.toNat <= 70))
def digV (c : UInt8) : Nat := if c.toNat <= 57 then c.toNat - 48 else if 97 <= c.toNat then c.toNat - 87 else c.toNat - 55
def numFrom (base : Nat) (n : Nat) (ds : List UInt8) : Nat := ds.foldl (fun n c => n * base + digV c) n
theorem numFrom_ge (base : Nat) (hb : 1 <= base) (ds : List UInt8) : ∀ n, n <= numFrom base n ds := by
 induction ds with
 | nil => intro n; exact Nat.le_refl _
 | cons c ds ih =>
  intro n
  have h1 := ih (n * base + digV c)
  have h2 : n * 1 <= n * base := Nat.mul_le_mul_left n hb
  show n <= numFrom base (n * base + digV c) ds
  omega
theorem digV_lt {base : Nat} {c : UInt8} (hb : base = 10 \/ base = 16) (h : isDig base c = true) : digV c < base := by
 simp only [isDig, decide_eq_true_eq] at h
 unfold digV
 split
 ·omega
 ·split <;> omega
theorem lower_do (c : Nat) (h : 97 <= c /\ c <= 102 \/ 65 <= c /\ c <= 70) (w : World) : Calls Tryz.prog 180 #[.int .u8 c] w fun e w' => e = .returned (.int .u8 ((if 97 <= c then c else c + 32 : Nat) : Int)) /\ w' = w := by
 have hc : c = 97 \/ c = 98 \/ c = 99 \/ c = 100 \/ c = 101 \/ c = 102 \/ c = 65 \/ c = 66 \/ c = 67 \/ c = 68 \/ c = 69 \/ c = 70 := by omega
 rcases hc with rfl | rfl | rfl | rfl | rfl | rfl | rfl | rfl | rfl | rfl | rfl | rfl
 all_goals (
  go_enter Tryz.func180, Tryz.ntmps180
  go_wp2
  go_ret
  exact ⟨rfl, rfl⟩)
theorem bytesWorld_old (w : World) (s : ByteArray) : Old w (Lib.bytesWorld w 5 s) :=
 ⟨rfl, rfl, rfl, by simp [Lib.bytesWorld, World.freeze], fun k hk _ => Lib.bytesWorld_at_old w 5 s k hk⟩
theorem bytesWorld_lies (w : World) (l : List UInt8) : Lies (Lib.bytesWorld w 5 ⟨l.toArray⟩) w.heap.size 0 l := by
 intro j c hj
 have h := Lib.bytesWorld_at_new w 5 ⟨l.toArray⟩
 obtain ⟨hj', rfl⟩ := List.getElem?_eq_some_iff.1 hj
 simp only [World.cell?, h, Nat.zero_add, Lib.bytesCells]
 simp [Array.getElem?_append, hj']
theorem parseUint_in (base : Nat) (hb : base = 10 \/ base = 16) (ds : List UInt8) (hne : ds ≠ []) (hok : ∀ c ∈ ds, isDig base c = true) (hv : numFrom base 0 ds <= 1114111) (hl : ds.length <= 1099511627776) (w : World) :
  Calls Tryz.prog 169 #[.string ⟨ds.toArray⟩, .int .i64 base, .int .i64 64] w fun e w' => e = .returned (.tuple #[.int .u64 (numFrom base 0 ds), .nilIface]) /\ Old w w' := by
 have hcv := Lib.run_convert_string_bytes (P := Tryz.prog) w 9 56 5 ⟨ds.toArray⟩ Tryz.underlying9 Tryz.underlying56 Tryz.underlying5
 have hsz : (⟨ds.toArray⟩ : ByteArray).size = ds.length := by rw [Lib.size_eq]
 have hem : ds.isEmpty = false := by
  cases ds with
  | nil => exact absurd rfl hne
  | cons a t => rfl
 have hlies := bytesWorld_lies w ds
 have hold := bytesWorld_old w ⟨ds.toArray⟩
 rw [hsz] at hcv
 generalize hW : Lib.bytesWorld w 5 ⟨ds.toArray⟩ = W at *
 generalize grownCap w ds.length 0 5 = cap at *
 replace hlies := zz hlies
 replace hold := zz hold
 replace hok := zz hok
 replace hv := zz hv
 clear hW hsz hne
 rcases hb with rfl | rfl
 ·show Calls Tryz.prog 169 #[.string ⟨ds.toArray⟩, .int .i64 10, .int .i64 64] w _
  have hmx : IntKind.u64.wrap (IntKind.u64.wrap 18446744073709551616 - 1) = 18446744073709551615 := by decide
  go_enter Tryz.func169, Tryz.ntmps169
  go_wp2
  obtain ⟨CC, hCC, hCC2⟩ : ∃ CC : Int, CC = 1844674407370955162 /\ 1114111 < CC := ⟨_, rfl, by decide⟩
  obtain ⟨MM, hMM, hMM2⟩ : ∃ MM : Int, MM = 18446744073709551615 /\ 1114111 < MM := ⟨_, rfl, by decide⟩
  rw [<- hCC, <- hMM]
  clear hCC hMM hmx
  go_loopg [12, 13, 101] ds.length (fun k u n i wr => ∃ (dn rs : List UInt8), ds = dn ++ rs /\ rs.length = k /\ u = .bool false /\ n = .int .u64 (numFrom 10 0 dn) /\ i = .int .i64 dn.length /\ wr = W)
  case atStart => exact ⟨[], ds, rfl, rfl, rfl, rfl, rfl, rfl⟩
  case round =>
   obtain ⟨dn, rs, hds, hk, rfl, rfl, rfl, rfl⟩ := hrel
   have hlen : ds.length = dn.length + rs.length := by rw [hds, List.length_append]
   cases rs with
   | nil =>
    have e1 : ¬ ((dn.length : Int) < (ds.length : Int)) := by simp at hlen; omega
    have e2 : dn = ds := by simpa using hds.symm
    subst e2
    clear hds hlen
    go_wp2
    go_ret2
    exact ⟨rfl, hold.out⟩
   | cons c rs =>
    have e1 : (dn.length : Int) < (ds.length : Int) := by simp at hlen; omega
    have hc := hlies.out dn.length c (by rw [hds]; simp)
    rw [Nat.zero_add] at hc
    have hd := hok.out c (by rw [hds]; simp)
    have hlt := digV_lt (base := 10) (by decide) hd
    have hn : numFrom 10 0 dn * 10 + digV c <= 1114111 := by
     have h2 := hv.out
     have h3 : numFrom 10 0 ds = numFrom 10 (numFrom 10 0 dn * 10 + digV c) rs := by rw [hds]; simp [numFrom]
     have h4 := numFrom_ge 10 (by decide) rs (numFrom 10 0 dn * 10 + digV c)
     omega
    have hrel : numFrom 10 0 (dn ++ [c]) = numFrom 10 0 dn * 10 + digV c := by simp [numFrom]
    have hds2 : ds = (dn ++ [c]) ++ rs := by rw [hds]; simp
    replace hds2 := zz hds2
    replace hrel := zz hrel
    replace hk := zz hk
    have hcl := c.toNat_lt
    obtain ⟨N, hN⟩ : ∃ N, N = numFrom 10 0 dn := ⟨_, rfl⟩
    rw [<- hN] at hn
    have hrel2 : Hid (numFrom 10 0 (dn ++ [c]) = N * 10 + digV c) := zz (by rw [hrel.out, hN])
    have hdv : digV c = if c.toNat <= 57 then c.toNat - 48 else if 97 <= c.toNat then c.toNat - 87 else c.toNat - 55 := rfl
    rw [<- hN]
    generalize hdn : dn.length = L at *
    replace hdn := zz hdn
    have hlow := fun h w => lower_do c.toNat h w
    simp only [isDig, decide_eq_true_eq] at hd
    clear hds hok hlies hcv hlen hrel hN hv hold
    generalize digV c = D at *
    have hw2 : IntKind.u64.wrap ((N : Int) * 10) = ((N * 10 : Nat) : Int) := by rw [IntWalk.u64_in _ (by omega)]; omega
    have hw3 : IntKind.u64.wrap (((N * 10 : Nat) : Int) + (D : Int)) = ((N * 10 : Nat) : Int) + (D : Int) := by rw [IntWalk.u64_in _ (by omega)]
    have hw4 : IntKind.u64.wrap (D : Int) = (D : Int) := IntWalk.u64_in _ (by omega)
    have hw5 : IntKind.i64.wrap ((L : Int) + 1) = ((L + 1 : Nat) : Int) := by rw [IntWalk.i64_in _ (by omega)]; omega
    have hw6 : ¬ ((10 : Int) <= (D : Int)) := by omega
    have hw7 : ¬ (((N * 10 : Nat) : Int) + (D : Int) < ((N * 10 : Nat) : Int)) := by omega
    have hw8 : ¬ (MM < ((N * 10 : Nat) : Int) + (D : Int)) := by omega
    have hw9 : ¬ (CC <= (N : Int)) := by omega
    have g95 : ((c.toNat : Int) == 95) = false := by rw [beq_eq_false_iff_ne]; omega
    by_cases h57 : c.toNat <= 57
    ·have g1 : (48 : Int) <= c.toNat := by omega
     have g2 : (c.toNat : Int) <= 57 := by omega
     have hw1 : IntKind.u8.wrap ((c.toNat : Int) - 48) = (D : Int) := by rw [if_pos h57] at hdv; rw [IntWalk.u8_in _ (by omega)]; omega
     clear hdv hn hd hlt hlow
     generalize hNB : N * 10 = NB at *
     go_wp2
     go_roundg rs.length
     case measure => have := hk.out; simp at this; omega
     case rel => exact ⟨dn ++ [c], rs, hds2.out, rfl, rfl, by rw [hrel2.out, Int.natCast_add], by rw [List.length_append, hdn.out]; rfl, rfl⟩
    ·have g2 : ¬ ((c.toNat : Int) <= 57) := by omega
     rw [if_neg h57] at hdv
     omega
 ·show Calls Tryz.prog 169 #[.string ⟨ds.toArray⟩, .int .i64 16, .int .i64 64] w _
  have hmx : IntKind.u64.wrap (IntKind.u64.wrap 18446744073709551616 - 1) = 18446744073709551615 := by decide
  go_enter Tryz.func169, Tryz.ntmps169
  go_wp2
  obtain ⟨CC, hCC, hCC2⟩ : ∃ CC : Int, CC = 1152921504606846976 /\ 1114111 < CC := ⟨_, rfl, by decide⟩
  obtain ⟨MM, hMM, hMM2⟩ : ∃ MM : Int, MM = 18446744073709551615 /\ 1114111 < MM := ⟨_, rfl, by decide⟩
  rw [<- hCC, <- hMM]
  clear hCC hMM hmx
  go_loopg [12, 13, 101] ds.length (fun k u n i wr => ∃ (dn rs : List UInt8), ds = dn ++ rs /\ rs.length = k /\ u = .bool false /\ n = .int .u64 (numFrom 16 0 dn) /\ i = .int .i64 dn.length /\ wr = W)
  case atStart => exact ⟨[], ds, rfl, rfl, rfl, rfl, rfl, rfl⟩
  case round =>
   obtain ⟨dn, rs, hds, hk, rfl, rfl, rfl, rfl⟩ := hrel
   have hlen : ds.length = dn.length + rs.length := by rw [hds, List.length_append]
   cases rs with
   | nil =>
    have e1 : ¬ ((dn.length : Int) < (ds.length : Int)) := by simp at hlen; omega
    have e2 : dn = ds := by simpa using hds.symm
    subst e2
    clear hds hlen
    go_wp2
    go_ret2
    exact ⟨rfl, hold.out⟩
   | cons c rs =>
    have e1 : (dn.length : Int) < (ds.length : Int) := by simp at hlen; omega
    have hc := hlies.out dn.length c (by rw [hds]; simp)
    rw [Nat.zero_add] at hc
    have hd := hok.out c (by rw [hds]; simp)
    have hlt := digV_lt (base := 16) (by decide) hd
    have hn : numFrom 16 0 dn * 16 + digV c <= 1114111 := by
     have h2 := hv.out
     have h3 : numFrom 16 0 ds = numFrom 16 (numFrom 16 0 dn * 16 + digV c) rs := by rw [hds]; simp [numFrom]
     have h4 := numFrom_ge 16 (by decide) rs (numFrom 16 0 dn * 16 + digV c)
     omega
    have hrel : numFrom 16 0 (dn ++ [c]) = numFrom 16 0 dn * 16 + digV c := by simp [numFrom]
    have hds2 : ds = (dn ++ [c]) ++ rs := by rw [hds]; simp
    replace hds2 := zz hds2
    replace hrel := zz hrel
    replace hk := zz hk
    have hcl := c.toNat_lt
    obtain ⟨N, hN⟩ : ∃ N, N = numFrom 16 0 dn := ⟨_, rfl⟩
    rw [<- hN] at hn
    have hrel2 : Hid (numFrom 16 0 (dn ++ [c]) = N * 16 + digV c) := zz (by rw [hrel.out, hN])
    have hdv : digV c = if c.toNat <= 57 then c.toNat - 48 else if 97 <= c.toNat then c.toNat - 87 else c.toNat - 55 := rfl
    rw [<- hN]
    generalize hdn : dn.length = L at *
    replace hdn := zz hdn
    have hlow := fun h w => lower_do c.toNat h w
    simp only [isDig, decide_eq_true_eq] at hd
    clear hds hok hlies hcv hlen hrel hN hv hold
    generalize digV c = D at *
    have hw2 : IntKind.u64.wrap ((N : Int) * 16) = ((N * 16 : Nat) : Int) := by rw [IntWalk.u64_in _ (by omega)]; omega
    have hw3 : IntKind.u64.wrap (((N * 16 : Nat) : Int) + (D : Int)) = ((N * 16 : Nat) : Int) + (D : Int) := by rw [IntWalk.u64_in _ (by omega)]
    have hw4 : IntKind.u64.wrap (D : Int) = (D : Int) := IntWalk.u64_in _ (by omega)
    have hw5 : IntKind.i64.wrap ((L : Int) + 1) = ((L + 1 : Nat) : Int) := by rw [IntWalk.i64_in _ (by omega)]; omega
    have hw6 : ¬ ((16 : Int) <= (D : Int)) := by omega
    have hw7 : ¬ (((N * 16 : Nat) : Int) + (D : Int) < ((N * 16 : Nat) : Int)) := by omega
    have hw8 : ¬ (MM < ((N * 16 : Nat) : Int) + (D : Int)) := by omega
    have hw9 : ¬ (CC <= (N : Int)) := by omega
    have g95 : ((c.toNat : Int) == 95) = false := by rw [beq_eq_false_iff_ne]; omega
    by_cases h57 : c.toNat <= 57
    ·have g1 : (48 : Int) <= c.toNat := by omega
     have g2 : (c.toNat : Int) <= 57 := by omega
     have hw1 : IntKind.u8.wrap ((c.toNat : Int) - 48) = (D : Int) := by rw [if_pos h57] at hdv; rw [IntWalk.u8_in _ (by omega)]; omega
     clear hdv hn hd hlt hlow
     generalize hNB : N * 16 = NB at *
     go_wp2
     go_roundg rs.length
     case measure => have := hk.out; simp at this; omega
     case rel => exact ⟨dn ++ [c], rs, hds2.out, rfl, rfl, by rw [hrel2.out, Int.natCast_add], by rw [List.length_append, hdn.out]; rfl, rfl⟩
    ·have g2 : ¬ ((c.toNat : Int) <= 57) := by omega
     rw [if_neg h57] at hdv
     have hhex : 97 <= c.toNat /\ c.toNat <= 102 \/ 65 <= c.toNat /\ c.toNat <= 70 := by omega
     have hlow := fun w => lower_do c.toNat hhex w
     have hlc : (if 97 <= c.toNat then c.toNat else c.toNat + 32) = D + 87 := by
      split
      ·rename_i h; rw [if_pos h] at hdv; omega
      ·rename_i h; rw [if_neg h] at hdv; omega
     rw [hlc] at hlow
     have hD10 : 10 <= D := by
      rcases hhex with h | h
      ·rw [if_pos h.1] at hdv; omega
      ·rw [if_neg (by omega)] at hdv; omega
     obtain ⟨X, Y, hX1, hX2, hX3, hX4, hlow'⟩ : ∃ X Y : Int, 97 <= X /\ X <= 122 /\ IntKind.u8.wrap (X - 97) = Y /\ IntKind.u8.wrap (Y + 10) = (D : Int) /\ ∀ w, Calls Tryz.prog 180 #[.int .u8 c.toNat] w fun e w' => e = .returned (.int .u8 X) /\ w' = w :=
      ⟨(D : Int) + 87, (D : Int) - 10, by omega, by omega, by rw [IntWalk.u8_in _ (by omega)]; omega, by rw [IntWalk.u8_in _ (by omega)]; omega, fun w => by
        have := hlow w; rwa [show ((D + 87 : Nat) : Int) = (D : Int) + 87 by omega] at this⟩
     replace hlow' := zz hlow'
     have g1 : (48 : Int) <= c.toNat := by omega
     clear hdv hn hd hlt hlow hlc hhex hD10
     generalize hNB : N * 16 = NB at *
     go_wp2_with (go_at_call 180; refine (hlow'.out _).mono ?_; rintro e w' ⟨rfl, rfl⟩)
     go_roundg rs.length
     case measure => have := hk.out; simp at this; omega
     case rel => exact ⟨dn ++ [c], rs, hds2.out, rfl, rfl, by rw [hrel2.out, Int.natCast_add], by rw [List.length_append, hdn.out]; rfl, rfl⟩
theorem parseUint_do (base : Nat) (hb : base = 10 \/ base = 16) (ds : List UInt8) (hne : ds ≠ []) (hok : ∀ c ∈ ds, isDig base c = true) (hv : numFrom base 0 ds <= 1114111) (hl : ds.length <= 1099511627776) (w : World) :
  Calls Tryz.prog 152 #[.string ⟨ds.toArray⟩, .int .i64 base, .int .i64 64] w fun e w' => e = .returned (.tuple #[.int .u64 (numFrom base 0 ds), .nilIface]) /\ Old w w' := by
 have h := (parseUint_in base hb ds hne hok hv hl w).mono (R' := fun e w' => e = .returned (.tuple #[.int .u64 (numFrom base 0 ds), .nilIface]) /\ Hid (Old w w')) (fun _ _ h => h)
 clear hb hne hok hv hl
 generalize numFrom base 0 ds = N at *
 generalize (⟨ds.toArray⟩ : ByteArray) = s at *
 go_enter Tryz.func152, Tryz.ntmps152
 go_wp2_with (go_at_call 169; refine h.mono ?_; rintro e w' ⟨rfl, k1⟩)
 go_ret2
 exact ⟨rfl, k1.out⟩
def ents : List (List UInt8 × Nat) := [([108, 116], 60), ([103, 116], 62), ([97, 109, 112], 38), ([97, 112, 111, 115], 39), ([113, 117, 111, 116], 34)]
theorem entity_do (s : List UInt8) (r : Nat) (h : (s, r) ∈ ents) (w : World) : Calls Tryz.prog 154 #[.string ⟨s.toArray⟩] w fun e w' => e = .returned (.tuple #[.int .i32 r, .bool true]) /\ w' = w := by
 simp only [ents, List.mem_cons, Prod.mk.injEq, List.not_mem_nil, or_false] at h
 rcases h with ⟨rfl, rfl⟩ | ⟨rfl, rfl⟩ | ⟨rfl, rfl⟩ | ⟨rfl, rfl⟩ | ⟨rfl, rfl⟩
 all_goals (
  go_enter Tryz.func154, Tryz.ntmps154
  go_wp2
  go_ret2
  exact ⟨rfl, rfl⟩)
def isCh (r : Nat) : Bool := decide (r = 9 \/ r = 10 \/ r = 13 \/ 32 <= r /\ r <= 55295 \/ 57344 <= r /\ r <= 65533 \/ 65536 <= r /\ r <= 1114111)
theorem isCh_ok {r : Nat} (h : isCh r = true) : okR r := by simp only [isCh, decide_eq_true_eq] at h; unfold okR; omega
theorem inRange_do (r : Nat) (h : isCh r = true) (w : World) : Calls Tryz.prog 101 #[.int .i32 r] w fun e w' => e = .returned (.bool true) /\ w' = w := by
 simp only [isCh, decide_eq_true_eq] at h
 go_enter Tryz.func101, Tryz.ntmps101
 go_wp2
 all_goals (
  go_ret
  refine ⟨congrArg (fun b => Ending.returned (.bool b)) ?_, rfl⟩
  first | rfl | (simp; done) | (simp; omega))
end
end Go.Proofs.YtepbbahdhhjibaaGreatDoor
