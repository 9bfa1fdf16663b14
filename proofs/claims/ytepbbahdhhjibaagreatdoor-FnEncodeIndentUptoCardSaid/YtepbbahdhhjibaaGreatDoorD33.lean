/- own text -/
import Derived.Laws.AppendOwnNone
import Derived.Test.YtepbbahdhhjibaaGreatDoorD27
import Derived.Test.YtepbbahdhhjibaaGreatDoorD32
namespace Go.Proofs.YtepbbahdhhjibaaGreatDoor
set_option linter.unusedSimpArgs false
set_option linter.unusedVariables false
set_option maxHeartbeats 8000000
set_option maxRecDepth 100000
set_option linter.unusedSectionVars false
section
open Go.RowKit
theorem or64 (a b i : Nat) (hi : i <= 8) (ha : a % 2 ^ i = 0) (hb : b < 2 ^ i) (ha2 : a < 256) : bits .or .i64 (a : Int) (b : Int) = ((a + b : Nat) : Int) := by
 have h2 : 2 ^ i <= 2 ^ 8 := Nat.pow_le_pow_right (by decide) hi
 have h8 : (2 : Nat) ^ 8 = 256 := by decide
 have h24 : (2 : Int) ^ 24 = 16777216 := by decide
 have hb' : (b : Int) < 2 ^ i := by exact_mod_cast hb
 have ha' : (a : Int) % 2 ^ i = 0 := by exact_mod_cast ha
 rw [bits_join .i64 24 (by decide) (wraps_i64 24 (by decide)) i (a : Int) (b : Int) (by omega) ha' (by rw [h24]; omega) (by omega) hb' (by rw [h24]; omega)]
 simp
theorem and64_63 (r : Nat) (hr : r < 16777216) : bits .and .i64 (r : Int) 63 = ((r % 64 : Nat) : Int) := by
 have h24 : ((r : Nat) : Int) < 2 ^ 24 := by
  have h1 : (2 : Int) ^ 24 = 16777216 := by decide
  rw [h1]; omega
 have := bits_mask .i64 24 (by decide) (wraps_i64 24 (by decide)) 6 (by decide) (r : Int) (by omega) h24
 exact_mod_cast this
theorem lies_new (w : World) (l : List UInt8) : Lies (w.alloc (.cells (bv l).toArray 5)) w.heap.size 0 l := by
 intro j c hj
 rw [Nat.zero_add, (Blk.new w (bv l).toArray 5).cell]
 simp [bv, hj]
theorem shr_i (r k : Nat) (m : Int) (hm : m = (k : Nat)) : (r : Int) / m = ((r / k : Nat) : Int) := by
 subst hm; simp
theorem encode_do' (r : Nat) (hr : okR r) (w : World) : Calls Tryz.prog 177 #[.int .i64 r] w fun e w' => e = .returned (.string ⟨(u8 r).toArray⟩) /\ Old w w' := by
 unfold okR at hr
 by_cases h1 : r < 128
 ·have e1 : u8 r = [UInt8.ofNat r] := u8_ascii h1
  have hcv := Lies.conv (lies_new w (u8 r)) 1 1 (by rw [e1]; rfl)
  have hcl : (bv (u8 r)).toArray = #[.int .u8 r] := by rw [e1]; simp [bv]; omega
  rw [hcl] at hcv
  have c1 : (r : Int) % 256 = (r : Int) := by omega
  generalize (u8 r) = l at *
  clear e1 hcl
  go_enter Tryz.func177, Tryz.ntmps177
  go_wp2
  go_ret
  exact ⟨rfl, (Fr.refl _ w).alloc _⟩
 by_cases h2 : r < 2048
 ·have e1 : u8 r = [UInt8.ofNat (192 + r / 64), UInt8.ofNat (128 + r % 64)] := by unfold u8; rw [if_neg h1, if_pos h2]
  have hcv := Lies.conv (lies_new w (u8 r)) 2 2 (by rw [e1]; rfl)
  obtain ⟨A, hA⟩ : ∃ A, A = 192 + r / 64 := ⟨_, rfl⟩
  obtain ⟨B, hB⟩ : ∃ B, B = r % 64 := ⟨_, rfl⟩
  obtain ⟨C, hC⟩ : ∃ C, C = 128 + B := ⟨_, rfl⟩
  have hcl : (bv (u8 r)).toArray = #[.int .u8 A, .int .u8 C] := by rw [e1, hA, hC, hB]; simp [bv]; omega
  rw [hcl] at hcv
  have p1 : bits .or .i64 192 ((r : Int) / 64) = (A : Int) := by rw [shr_i r 64 64 rfl, hA]; exact or64 192 (r / 64) 6 (by decide) (by decide) (by have : (2:Nat) ^ 6 = 64 := (by decide); omega) (by omega)
  have p2 : bits .and .i64 (r : Int) 63 = (B : Int) := by rw [hB]; exact and64_63 r (by omega)
  have p3 : bits .or .i64 128 (B : Int) = (C : Int) := by rw [hC]; exact or64 128 B 6 (by decide) (by decide) (by have : (2:Nat) ^ 6 = 64 := (by decide); omega) (by omega)
  have c1 : (A : Int) % 256 = (A : Int) := by omega
  have c2 : (C : Int) % 256 = (C : Int) := by omega
  have i1 : ¬ ((r : Int) < 128) := by omega
  have i2 : (r : Int) < 2048 := by omega
  generalize (u8 r) = l at *
  clear e1 hcl hA hB hC
  go_enter Tryz.func177, Tryz.ntmps177
  go_wp2
  go_ret
  exact ⟨rfl, (Fr.refl _ w).alloc _⟩
 by_cases h3 : r < 65536
 ·have e1 : u8 r = [UInt8.ofNat (224 + r / 4096), UInt8.ofNat (128 + r / 64 % 64), UInt8.ofNat (128 + r % 64)] := by unfold u8; rw [if_neg h1, if_neg h2, if_pos h3]
  have hcv := Lies.conv (lies_new w (u8 r)) 3 3 (by rw [e1]; rfl)
  obtain ⟨A, hA⟩ : ∃ A, A = 224 + r / 4096 := ⟨_, rfl⟩
  obtain ⟨B, hB⟩ : ∃ B, B = r % 64 := ⟨_, rfl⟩
  obtain ⟨C, hC⟩ : ∃ C, C = 128 + B := ⟨_, rfl⟩
  obtain ⟨D, hD⟩ : ∃ D, D = r / 64 % 64 := ⟨_, rfl⟩
  obtain ⟨E, hE⟩ : ∃ E, E = 128 + D := ⟨_, rfl⟩
  have hcl : (bv (u8 r)).toArray = #[.int .u8 A, .int .u8 E, .int .u8 C] := by rw [e1, hA, hE, hD, hC, hB]; simp [bv]; omega
  rw [hcl] at hcv
  have p6 : (2:Nat) ^ 6 = 64 := by decide
  have p1 : bits .or .i64 224 ((r : Int) / 4096) = (A : Int) := by rw [shr_i r 4096 4096 rfl, hA]; exact or64 224 (r / 4096) 5 (by decide) (by decide) (by have : (2:Nat) ^ 5 = 32 := (by decide); omega) (by omega)
  have p2 : bits .and .i64 (r : Int) 63 = (B : Int) := by rw [hB]; exact and64_63 r (by omega)
  have p3 : bits .or .i64 128 (B : Int) = (C : Int) := by rw [hC]; exact or64 128 B 6 (by decide) (by decide) (by omega) (by omega)
  have p4 : bits .and .i64 ((r : Int) / 64) 63 = (D : Int) := by rw [shr_i r 64 64 rfl, hD]; exact and64_63 (r / 64) (by omega)
  have p5 : bits .or .i64 128 (D : Int) = (E : Int) := by rw [hE]; exact or64 128 D 6 (by decide) (by decide) (by omega) (by omega)
  have c1 : (A : Int) % 256 = (A : Int) := by omega
  have c2 : (C : Int) % 256 = (C : Int) := by omega
  have c3 : (E : Int) % 256 = (E : Int) := by omega
  have i1 : ¬ ((r : Int) < 128) := by omega
  have i2 : ¬ ((r : Int) < 2048) := by omega
  have i3 : (r : Int) < 65536 := by omega
  generalize (u8 r) = l at *
  clear e1 hcl hA hB hC hD hE p6
  go_enter Tryz.func177, Tryz.ntmps177
  go_wp2
  go_ret
  exact ⟨rfl, (Fr.refl _ w).alloc _⟩
 ·have e1 : u8 r = [UInt8.ofNat (240 + r / 262144), UInt8.ofNat (128 + r / 4096 % 64), UInt8.ofNat (128 + r / 64 % 64), UInt8.ofNat (128 + r % 64)] := by unfold u8; rw [if_neg h1, if_neg h2, if_neg h3]
  have hcv := Lies.conv (lies_new w (u8 r)) 4 4 (by rw [e1]; rfl)
  obtain ⟨A, hA⟩ : ∃ A, A = 240 + r / 262144 := ⟨_, rfl⟩
  obtain ⟨B, hB⟩ : ∃ B, B = r % 64 := ⟨_, rfl⟩
  obtain ⟨C, hC⟩ : ∃ C, C = 128 + B := ⟨_, rfl⟩
  obtain ⟨D, hD⟩ : ∃ D, D = r / 64 % 64 := ⟨_, rfl⟩
  obtain ⟨E, hE⟩ : ∃ E, E = 128 + D := ⟨_, rfl⟩
  obtain ⟨F, hF⟩ : ∃ F, F = r / 4096 % 64 := ⟨_, rfl⟩
  obtain ⟨G, hG⟩ : ∃ G, G = 128 + F := ⟨_, rfl⟩
  have hcl : (bv (u8 r)).toArray = #[.int .u8 A, .int .u8 G, .int .u8 E, .int .u8 C] := by rw [e1, hA, hG, hF, hE, hD, hC, hB]; simp [bv]; omega
  rw [hcl] at hcv
  have p6 : (2:Nat) ^ 6 = 64 := by decide
  have p1 : bits .or .i64 240 ((r : Int) / 262144) = (A : Int) := by rw [shr_i r 262144 262144 rfl, hA]; exact or64 240 (r / 262144) 4 (by decide) (by decide) (by have : (2:Nat) ^ 4 = 16 := (by decide); omega) (by omega)
  have p2 : bits .and .i64 (r : Int) 63 = (B : Int) := by rw [hB]; exact and64_63 r (by omega)
  have p3 : bits .or .i64 128 (B : Int) = (C : Int) := by rw [hC]; exact or64 128 B 6 (by decide) (by decide) (by omega) (by omega)
  have p4 : bits .and .i64 ((r : Int) / 64) 63 = (D : Int) := by rw [shr_i r 64 64 rfl, hD]; exact and64_63 (r / 64) (by omega)
  have p5 : bits .or .i64 128 (D : Int) = (E : Int) := by rw [hE]; exact or64 128 D 6 (by decide) (by decide) (by omega) (by omega)
  have p7 : bits .and .i64 ((r : Int) / 4096) 63 = (F : Int) := by rw [shr_i r 4096 4096 rfl, hF]; exact and64_63 (r / 4096) (by omega)
  have p8 : bits .or .i64 128 (F : Int) = (G : Int) := by rw [hG]; exact or64 128 F 6 (by decide) (by decide) (by omega) (by omega)
  have c1 : (A : Int) % 256 = (A : Int) := by omega
  have c2 : (C : Int) % 256 = (C : Int) := by omega
  have c3 : (E : Int) % 256 = (E : Int) := by omega
  have c4 : (G : Int) % 256 = (G : Int) := by omega
  have i1 : ¬ ((r : Int) < 128) := by omega
  have i2 : ¬ ((r : Int) < 2048) := by omega
  have i3 : ¬ ((r : Int) < 65536) := by omega
  generalize (u8 r) = l at *
  clear e1 hcl hA hB hC hD hE hF hG p6
  go_enter Tryz.func177, Tryz.ntmps177
  go_wp2
  go_ret
  exact ⟨rfl, (Fr.refl _ w).alloc _⟩
end
section
open Go.RowKit
def SP (P : Nat) (s : ByteArray) (q : PV) (vd : Int) (w : World) (a : Nat) (w1 : World) : Prop := PB w1 P s a q vd /\ FrP P w w1
def SPc (P : Nat) (s : ByteArray) (a : Nat) (w1 : World) : Prop := w1.cell? ⟨P, 0, none⟩ = some (.string s) /\ w1.cell? ⟨P, 1, none⟩ = some (.int .i64 a) /\ ∀ i, w1.frozen? ⟨P, i, none⟩ = false
section
variable {P : Nat} {s : ByteArray} {q : PV} {vd : Int} {w : World} {a : Nat} {w1 : World} (h : SP P s q vd w a w1)
theorem SP.start (h : PB w P s a q vd) : SP P s q vd w a w := ⟨h, Fr.refl _ w⟩
include h
theorem SP.c : SPc P s a w1 := ⟨(PB.c h.1).1, (PB.c h.1).2.1, h.1.fz⟩
theorem SP.drewN (n : Nat) : SP P s q vd w a (w1.drewN n) := ⟨h.1.drewN n, frp_tr h.2 (frp_of ⟨n, rfl⟩)⟩
theorem SP.drw {w2 : World} (d : Drw w1 w2) : SP P s q vd w a w2 := ⟨Blk.drw h.1 d, frp_tr h.2 (frp_of d)⟩
theorem SP.old {w2 : World} (d : Old w1 w2) : SP P s q vd w a w2 := ⟨h.1.keep d (fun h => h), h.2.old d⟩
theorem SP.set1 (b : Nat) : SP P s q vd w b (w1.setCell ⟨P, 1, none⟩ (.int .i64 b)) := ⟨PB.set1 h.1 b, frp_st h.2 _ _⟩
variable (hz : s.size <= 549755813888) (ha : a <= s.size)
include hz ha
theorem SP.hasY (lit rest : List UInt8) (hl : s.data.toList.drop a = lit ++ rest) (hlit : lit.length <= 1000) : Calls Tryz.prog 76 #[.pointer (some ⟨P, 0, none⟩), .string ⟨lit.toArray⟩] w1 fun e w' => e = .returned (.bool true) /\ SPc P s (a + lit.length) w' /\ Hid (SP P s q vd w (a + lit.length) w') := by
 refine (has_yes h.1 lit rest hl hz ha hlit).mono ?_
 rintro e w' ⟨rfl, k1, k2⟩
 have k : SP P s q vd w (a + lit.length) w' := ⟨k1, frp_tr h.2 k2⟩
 exact ⟨rfl, k.c, k⟩
theorem SP.hasN (lit : List UInt8) (hl : (s.data.toList.drop a).take lit.length ≠ lit) (hlit : lit.length <= 1000) : Calls Tryz.prog 76 #[.pointer (some ⟨P, 0, none⟩), .string ⟨lit.toArray⟩] w1 fun e w' => e = .returned (.bool false) /\ SPc P s a w' /\ Hid (SP P s q vd w a w') := by
 refine (has_no h.1 lit hl hz ha hlit).mono ?_
 rintro e w' ⟨rfl, k1⟩
 have k := h.drw k1
 exact ⟨rfl, k.c, k⟩
theorem SP.blanks : Calls Tryz.prog 131 #[.pointer (some ⟨P, 0, none⟩)] w1 fun e w' => ∃ b : Bool, e = .returned (.bool b) /\ Hid (∃ ws rest, b = !ws.isEmpty /\ s.data.toList.drop a = ws ++ rest /\ (∀ c ∈ ws, isWs c = true) /\ (∀ c t, rest = c :: t -> isWs c = false) /\ SP P s q vd w (a + ws.length) w') := by
 refine (blanks_do h.1 hz ha).mono ?_
 rintro e w' ⟨ws, rest, rfl, h1, h2, h3, h4, h5⟩
 exact ⟨_, rfl, ws, rest, rfl, h1, h2, h3, h4, frp_tr h.2 h5⟩
omit hz ha in
theorem SP.endY (ha : s.size <= a) : Calls Tryz.prog 42 #[.pointer (some ⟨P, 0, none⟩)] w1 fun e w' => e = .returned (.bool true) /\ Drw w1 w' := ended_yes h.1 ha
omit hz ha in
theorem SP.endN (ha : a < s.size) : Calls Tryz.prog 42 #[.pointer (some ⟨P, 0, none⟩)] w1 fun e w' => e = .returned (.bool false) /\ Drw w1 w' := ended_no h.1 ha
end
theorem SP.from {P : Nat} {s : ByteArray} {q : PV} {vd : Int} {w w0 : World} {a : Nat} {w1 : World} (h : SP P s q vd w a w1) (f : FrP P w0 w) : SP P s q vd w0 a w1 := ⟨h.1, frp_tr f h.2⟩
end
section
open Go.RowKit
theorem name_wb {nm : List Nat} (h : NameOk nm) : ∀ c ∈ nb nm, wb c = true := by
 intro c hc
 obtain ⟨r, hr, hc⟩ := List.mem_flatMap.1 hc
 have h1 := h.all r hr
 unfold wb
 by_cases h128 : r < 128
 ·rw [u8_ascii h128] at hc
  rw [List.mem_singleton.1 hc, ofNat_toNat (by omega), h1, Bool.or_true]
 ·have := u8_bytes (nCt_ok h1) (by omega) c hc
  rw [decide_eq_true this, Bool.true_or]
theorem name_size {nm : List Nat} (h : NameOk nm) : 0 < (nb nm).length := by
 have := h.nb_ne
 cases hh : nb nm with
 | nil => exact absurd hh this
 | cons a b => simp
theorem nameKind_yes (nm : List Nat) (hnm : NameOk nm) (s : ByteArray) (hs : s.data.toList = nb nm) (hz : s.size <= 549755813888) (w : World) : Calls Tryz.prog 47 #[.string s] w fun e w' => e = .returned (.int .i64 0) /\ Drw w w' := by
 have hall := hnm.all
 have hpos := name_size hnm
 have he : s.toList.isEmpty = false := toList_ne (by rw [Lib.size_eq, hs]; exact hpos)
 have hst0 : ∀ r t, nm = r :: t -> nSt r = true := by
  obtain ⟨r, t, e, h1, _⟩ := hnm.ne
  intro r' t' e'
  rw [e] at e'
  injection e' with e' _
  rw [<- e']; exact h1
 replace hs := zz hs
 replace hall := zz hall
 replace hst0 := zz hst0
 clear hnm hpos
 go_enter Tryz.func47, Tryz.ntmps47
 go_wp2
 go_loopg [3, 4] nm.length (fun m u3 u4 wr => ∃ (rs ys : List Nat), u3 = .int .i64 0 /\ u4 = .int .i64 (nb rs).length /\ nm = rs ++ ys /\ ys.length = m /\ Drw w wr)
 case atStart => exact ⟨[], nm, rfl, rfl, rfl, rfl, Drw.refl w⟩
 case round =>
  obtain ⟨rs, ys, rfl, rfl, hnm, hm, hD⟩ := hrel
  have hL : s.data.toList = nb rs ++ nb ys := by rw [hs.out, hnm, nb_append]
  have hsz : s.size = (nb rs).length + (nb ys).length := by rw [Lib.size_eq, hL, List.length_append]
  obtain ⟨I, hI⟩ : ∃ I, I = (nb rs).length := ⟨_, rfl⟩
  rw [<- hI] at hsz ⊢
  have hirs : I = 0 ↔ rs = [] := by
   rw [hI]
   constructor
   ·intro h
    cases rs with
    | nil => rfl
    | cons a b => rw [nb_cons, List.length_append] at h; have := (u8_len a).1; omega
   ·rintro rfl; rfl
  replace hD := zz hD
  cases ys with
  | nil =>
   have i1 : ¬ ((I : Int) < (s.size : Int)) := by simp [nb] at hsz; omega
   clear hL hm hI hsz hirs hnm
   go_wp2
   go_ret
   exact ⟨rfl, hD.out⟩
  | cons r ys =>
   have hct : nCt r = true := hall.out r (by rw [hnm]; simp)
   have hok := nCt_ok hct
   have hlr := u8_len r
   have hst : rs = [] -> nSt r = true := fun h => hst0.out r ys (by rw [hnm, h]; rfl)
   rw [nb_cons, List.length_append] at hsz
   have i1 : (I : Int) < (s.size : Int) := by omega
   have i2 : (I : Int) <= (s.size : Int) := by omega
   have i3 : (0 : Int) <= (I : Int) := by omega
   have hex : (s.extract I s.size).data.toList = u8 r ++ nb ys := by rw [ext_end, hL, hI, List.drop_left, nb_cons]
   obtain ⟨r', n, hrn, hdc, hn4, hns, hsome⟩ := decode_at (s.extract I s.size)
   rw [hex, decS_u8 r hok] at hrn
   obtain ⟨e1, e2⟩ := Prod.mk.inj hrn
   subst e1
   have hd := fun (w1 : World) (hw : Drw wr w1) => (hdc w1).mono (R' := fun e w' => e = .returned (.tuple #[.int .i64 (r : Nat), .int .i64 (n : Nat)]) /\ Hid (Drw wr w')) (fun _ _ h => ⟨h.1, hw.trans h.2⟩)
   have hb := fun (w1 : World) (hw : Drw wr w1) => (spBegins_do r w1).mono (R' := fun e w' => e = .returned (.bool (nSt r)) /\ Hid (Drw wr w')) (fun _ _ h => ⟨h.1, hw.trans h.2⟩)
   have hc := fun (w1 : World) (hw : Drw wr w1) => (spCont_do r w1).mono (R' := fun e w' => e = .returned (.bool (nCt r)) /\ Hid (Drw wr w')) (fun _ _ h => ⟨h.1, hw.trans h.2⟩)
   rw [hct] at hc
   have i4 : IntKind.i64.wrap ((I : Int) + (n : Int)) = ((I + n : Nat) : Int) := by rw [IntWalk.i64_in _ (by omega)]; omega
   have e0 : ((n : Int) == 0) = false := by rw [beq_eq_false_iff_ne]; omega
   have hnext : nm = (rs ++ [r]) ++ ys /\ I + n = (nb (rs ++ [r])).length /\ ys.length + 1 = gk := by
    refine ⟨by rw [hnm]; simp, ?_, by simpa using hm⟩
    rw [nb_append, List.length_append, <- hI]
    simp [nb]; omega
   replace hd := zz hd
   replace hc := zz hc
   replace hnext := zz hnext
   clear hdc hex hsome hsz hn4 hns hrn e2 hL hm hnm hI hok hlr hct
   by_cases hi0 : I = 0
   ·have e2 : ((I : Int) == 0) = true := by rw [beq_iff_eq]; omega
    rw [hst (hirs.1 hi0)] at hb
    replace hb := zz hb
    replace hi0 := zz hi0
    clear hirs hst
    by_cases h128 : 128 <= r
    all_goals (
     have e3 := h128
     go_wp2_with (first | (go_at_call 45; refine (hd.out _ (Drw.refl _)).mono ?_; rintro e w1 ⟨rfl, k1⟩) | (go_at_call 86; refine (hc.out _ (by first | exact k2.out | exact k1.out)).mono ?_; rintro e w2 ⟨rfl, k2⟩) | (go_at_call 87; refine (hb.out _ k2.out).mono ?_; rintro e w3 ⟨rfl, k3⟩))
     go_roundg ys.length
     case measure => have := hnext.out.2.2; omega
     case rel => exact ⟨rs ++ [r], ys, rfl, congrArg (Value.int .i64) (by have := hnext.out.2.1; omega), hnext.out.1, rfl, hD.out.trans k3.out⟩)
   ·have e2 : ((I : Int) == 0) = false := by rw [beq_eq_false_iff_ne]; omega
    replace hi0 := zz hi0
    clear hirs hst hb
    by_cases h128 : 128 <= r
    all_goals (
     have e3 := h128
     go_wp2_with (first | (go_at_call 45; refine (hd.out _ (Drw.refl _)).mono ?_; rintro e w1 ⟨rfl, k1⟩) | (go_at_call 86; refine (hc.out _ (by first | exact k2.out | exact k1.out)).mono ?_; rintro e w2 ⟨rfl, k2⟩))
     go_roundg ys.length
     case measure => have := hnext.out.2.2; omega
     case rel => exact ⟨rs ++ [r], ys, rfl, congrArg (Value.int .i64) (by have := hnext.out.2.1; omega), hnext.out.1, rfl, hD.out.trans k2.out⟩)
theorem isName_yes (nm : List Nat) (hnm : NameOk nm) (s : ByteArray) (hs : s.data.toList = nb nm) (hz : s.size <= 549755813888) (w : World) : Calls Tryz.prog 26 #[.string s] w fun e w' => e = .returned (.bool true) /\ Drw w w' := by
 have hnk := fun w1 => (nameKind_yes nm hnm s hs hz w1).mono (R' := fun e w' => e = .returned (.int .i64 0) /\ Hid (Drw w1 w')) (fun _ _ h => h)
 have hno := hnm.nb_nc
 rw [<- hs] at hno
 have hsl : s.size = s.data.toList.length := Lib.size_eq s
 replace hsl := zz hsl
 replace hnk := zz hnk
 replace hno := zz hno
 clear hs hnm
 go_enter Tryz.func26, Tryz.ntmps26
 go_wp2
 go_loopg [6] s.size (fun m u6 wr => ∃ i : Nat, u6 = .int .i64 i /\ i + m = s.size /\ Drw w wr)
 case atStart => exact ⟨0, rfl, by omega, Drw.refl w⟩
 case round =>
  obtain ⟨i, rfl, hi, hD⟩ := hrel
  replace hD := zz hD
  by_cases hlt : i < s.size
  ·have i1 : (i : Int) < (s.size : Int) := by omega
   have i2 : IntKind.i64.wrap ((i : Int) + 1) = ((i + 1 : Nat) : Int) := by rw [IntWalk.i64_in _ (by omega)]; omega
   have hc := get_data s i
   have hmem : s.data.toList.getD i 0 ∈ s.data.toList := by
    rw [List.getD_eq_getElem?_getD, List.getElem?_eq_getElem (by rw [<- hsl.out]; exact hlt)]
    exact List.getElem_mem _
   have hne := hno.out _ hmem
   generalize s.data.toList.getD i 0 = c at *
   obtain ⟨n, hn⟩ : ∃ n, n = c.toNat := ⟨_, rfl⟩
   rw [<- hn] at hc
   have e0 : ((n : Int) == 58) = false := by
    rw [beq_eq_false_iff_ne]
    intro e
    exact hne (UInt8.toNat_inj.1 (by rw [<- hn]; show n = 58; omega))
   replace hi := zz hi
   replace hn := zz hn
   replace hne := zz hne
   clear hmem
   go_wp2
   go_roundg (s.size - (i + 1))
   case measure => have := hi.out; omega
   case rel => exact ⟨i + 1, rfl, by have := hi.out; omega, hD.out⟩
  ·have i1 : ¬ (i : Int) < (s.size : Int) := by omega
   clear hi hlt
   go_wp2_with (go_at_call 47; refine (hnk.out _).mono ?_; rintro e w1 ⟨rfl, k1⟩)
   go_ret
   exact ⟨rfl, hD.out.trans k1.out⟩
theorem blank_det : ∀ {ws X rest Y : List UInt8}, ws ++ rest = X ++ Y -> (∀ c ∈ ws, isWs c = true) -> (∀ c ∈ X, isWs c = true) -> (∀ c t, rest = c :: t -> isWs c = false) -> (∀ c t, Y = c :: t -> isWs c = false) -> ws = X := by
 intro ws
 induction ws with
 | nil =>
  intro X rest Y h _ hX hr _
  cases X with
  | nil => rfl
  | cons c X =>
   have h1 := hX c (by simp)
   rw [hr c (X ++ Y) h] at h1
   cases h1
 | cons c ws ih =>
  intro X rest Y h hw hX hr hY
  cases X with
  | nil =>
   have h1 := hw c (by simp)
   rw [hY c (ws ++ rest) h.symm] at h1
   cases h1
  | cons d X =>
   injection h with h1 h2
   subst h1
   rw [ih h2 (fun x hx => hw x (by simp [hx])) (fun x hx => hX x (by simp [hx])) hr hY]
theorem SP.blanksY {P : Nat} {s : ByteArray} {q : PV} {vd : Int} {w : World} {a : Nat} {w1 : World} (h : SP P s q vd w a w1) (hz : s.size <= 549755813888) (ha : a <= s.size) (X Y : List UInt8) (hL : s.data.toList.drop a = X ++ Y) (hX : ∀ c ∈ X, isWs c = true) (hY : ∀ c t, Y = c :: t -> isWs c = false) :
  Calls Tryz.prog 131 #[.pointer (some ⟨P, 0, none⟩)] w1 fun e w' => e = .returned (.bool (!X.isEmpty)) /\ Hid (SP P s q vd w (a + X.length) w') := by
 refine (h.blanks hz ha).mono ?_
 rintro e w' ⟨b, rfl, ws, rest, rfl, h1, h2, h3, h4⟩
 obtain rfl : ws = X := blank_det (by rw [<- h1, hL]) h2 hX h3 hY
 exact ⟨rfl, h4⟩
theorem name_yes (P : Nat) (s : ByteArray) (a : Nat) (q : PV) (vd : Int) (w : World) (h : PB w P s a q vd) (hz : s.size <= 549755813888) (ha : a <= s.size) (nm : List Nat) (hnm : NameOk nm) (rest : List UInt8) (hL : s.data.toList.drop a = nb nm ++ rest) (hr : ∀ c t, rest = c :: t -> wb c = false) :
  Calls Tryz.prog 130 #[.pointer (some ⟨P, 0, none⟩)] w fun e w' => e = .returned (.tuple #[.string ⟨#[]⟩, .string (nameB nm), .bool true]) /\ Hid (SP P s q vd w (a + (nb nm).length) w') := by
 have hsz := at_le hL ha
 have hwd := word_yes h hz ha (nb nm) rest hL (name_wb hnm) hr
 obtain ⟨x, hx⟩ : ∃ x, x = nameB nm := ⟨_, rfl⟩
 have hxd : x.data.toList = nb nm := by rw [hx]; rfl
 have hxs : x.size <= 549755813888 := by rw [Lib.size_eq, hxd]; omega
 have e0 : (⟨(nb nm).toArray⟩ : ByteArray) = x := hx.symm
 rw [e0] at hwd
 rw [<- hx]
 have hno : (58 : UInt8) ∉ x.data.toList := by rw [hxd]; exact fun h => hnm.nb_nc _ h rfl
 obtain ⟨A, hA⟩ : ∃ A, A = a + (nb nm).length := ⟨_, rfl⟩
 rw [<- hA] at hwd ⊢
 have hnk : ∀ w1, SP P s q vd w A w1 -> Calls Tryz.prog 47 #[.string x] w1 fun e w' => e = .returned (.int .i64 0) /\ Hid (SP P s q vd w A w') := fun w1 hw => by
  refine (nameKind_yes nm hnm x hxd hxs w1).mono ?_
  rintro e w' ⟨rfl, h1⟩
  exact ⟨rfl, hw.drw h1⟩
 have hsp : ∀ w1, SP P s q vd w A w1 -> Calls Tryz.prog 164 #[.string x] w1 fun e w' => e = .returned (.tuple #[.string ⟨#[]⟩, .string x, .bool true]) /\ Hid (SP P s q vd w A w') := fun w1 hw => by
  refine (split_do x w1 hxs).mono ?_
  rintro e w' ⟨p, l, ok, rfl, h1, _, _, h4, _⟩
  obtain ⟨rfl, rfl, rfl⟩ := h4 hno
  exact ⟨rfl, hw.drw h1⟩
 have hin : ∀ w1, SP P s q vd w A w1 -> Calls Tryz.prog 26 #[.string x] w1 fun e w' => e = .returned (.bool true) /\ Hid (SP P s q vd w A w') := fun w1 hw => by
  refine (isName_yes nm hnm x hxd hxs w1).mono ?_
  rintro e w' ⟨rfl, h1⟩
  exact ⟨rfl, hw.drw h1⟩
 replace hwd := zz hwd
 replace hnk := zz hnk
 replace hsp := zz hsp
 replace hin := zz hin
 clear h hL hr hx hxd hxs e0 hno hA hsz
 go_enter Tryz.func130, Tryz.ntmps130
 go_wp2_with (first
  | (go_at_call 133; refine hwd.out.mono ?_; rintro e w1 ⟨rfl, k1⟩)
  | (go_at_call 47; refine (hnk.out _ k1.out).mono ?_; rintro e w2 ⟨rfl, k2⟩; clear k1)
  | (go_at_call 164; refine (hsp.out _ k2.out).mono ?_; rintro e w3 ⟨rfl, k3⟩; clear k2)
  | (go_at_call 26; refine (hin.out _ k3.out).mono ?_; rintro e w4 ⟨rfl, k4⟩; clear k3))
 go_ret3
 exact ⟨rfl, k4.out⟩
end
section
open Go.RowKit
def numRefs : List (List UInt8 × Nat) := [([51, 52], 34), ([51, 57], 39), ([120, 57], 9), ([120, 65], 10), ([120, 68], 13)]
theorem bytes2 {s : ByteArray} {a b : UInt8} (hs : s.data.toList = [a, b]) : s.size = 2 /\ (∀ h : 0 < s.size, (s[0]'h).toNat = a.toNat) /\ (∀ h : 1 < s.size, (s[1]'h).toNat = b.toNat) /\ s.toList.isEmpty = false /\ (s.extract 1 s.size).size = 1 /\ (∀ h : 0 < (s.extract 1 s.size).size, ((s.extract 1 s.size)[0]'h).toNat = b.toNat) := by
 have h1 : s.size = 2 := by rw [Lib.size_eq, hs]; rfl
 refine ⟨h1, fun h => ?_, fun h => ?_, toList_ne (by omega), by rw [ext_size]; omega, fun h => ?_⟩
 ·rw [get_data, hs]; rfl
 ·rw [get_data, hs]; rfl
 ·rw [get_data, ext_end, hs]; rfl
theorem number_yes (ds : List UInt8) (r : Nat) (h : (ds, r) ∈ numRefs) (s : ByteArray) (hs : s.data.toList = ds) (w : World) : Calls Tryz.prog 176 #[.string s] w fun e w' => e = .returned (.tuple #[.int .i64 r, .bool true]) /\ Drw w w' := by
 simp only [numRefs, List.mem_cons, Prod.mk.injEq, List.not_mem_nil, or_false] at h
 rcases h with ⟨rfl, rfl⟩ | ⟨rfl, rfl⟩ | ⟨rfl, rfl⟩ | ⟨rfl, rfl⟩ | ⟨rfl, rfl⟩
 all_goals (
  obtain ⟨h1, h2, h3, h4, h5, h6⟩ := bytes2 hs
  clear hs)
 ·change ∀ h, (s[0]'h).toNat = 51 at h2
  change ∀ h, (s[1]'h).toNat = 52 at h3
  clear h5 h6
  go_enter Tryz.func176, Tryz.ntmps176
  go_wp2
  refine wp_loop_rounds 3 ?_
  rw [rounds_succ]; go_wp2
  rw [rounds_succ]; go_wp2
  rw [rounds_succ]; go_wp2
  go_ret2
  exact ⟨rfl, Drw.refl _⟩
 ·change ∀ h, (s[0]'h).toNat = 51 at h2
  change ∀ h, (s[1]'h).toNat = 57 at h3
  clear h5 h6
  go_enter Tryz.func176, Tryz.ntmps176
  go_wp2
  refine wp_loop_rounds 3 ?_
  rw [rounds_succ]; go_wp2
  rw [rounds_succ]; go_wp2
  rw [rounds_succ]; go_wp2
  go_ret2
  exact ⟨rfl, Drw.refl _⟩
 all_goals (
  change ∀ h, (s[0]'h).toNat = 120 at h2
  generalize hu : s.extract 1 s.size = u at h5 h6
  replace hu := zz hu
  have he := toList_ne (s := u) (by omega)
  have he2 : ¬ u.toList = [] := fun e => by rw [e] at he; exact absurd he (by decide)
  clear h3)
 ·change ∀ h, (u[0]'h).toNat = 57 at h6
  go_enter Tryz.func176, Tryz.ntmps176
  go_wp2
  go_region
  rw [h1] at hu
  rw [hu.out]
  go_wp2
  refine wp_loop_rounds 2 ?_
  rw [rounds_succ]; go_wp2
  rw [rounds_succ]; go_wp2
  go_ret2
  exact ⟨rfl, _, rfl⟩
 ·change ∀ h, (u[0]'h).toNat = 65 at h6
  go_enter Tryz.func176, Tryz.ntmps176
  go_wp2
  go_region
  rw [h1] at hu
  rw [hu.out]
  go_wp2
  refine wp_loop_rounds 2 ?_
  rw [rounds_succ]; go_wp2
  rw [rounds_succ]; go_wp2
  go_ret2
  exact ⟨rfl, _, rfl⟩
 ·change ∀ h, (u[0]'h).toNat = 68 at h6
  go_enter Tryz.func176, Tryz.ntmps176
  go_wp2
  go_region
  rw [h1] at hu
  rw [hu.out]
  go_wp2
  refine wp_loop_rounds 2 ?_
  rw [rounds_succ]; go_wp2
  rw [rounds_succ]; go_wp2
  go_ret2
  exact ⟨rfl, _, rfl⟩
def escRefs : List (List UInt8 × Nat) := [([35, 51, 52], 34), ([35, 51, 57], 39), ([35, 120, 57], 9), ([35, 120, 65], 10), ([35, 120, 68], 13), ([97, 109, 112], 38), ([108, 116], 60), ([103, 116], 62)]
theorem escRefs_facts {ds : List UInt8} {r : Nat} (h : (ds, r) ∈ escRefs) : (59 : UInt8) ∉ ds /\ isCh r = true /\ ds.length <= 4 /\ ((∃ ds', ds = 35 :: ds' /\ (ds', r) ∈ numRefs) \/ ((ds = [97, 109, 112] /\ r = 38) \/ (ds = [108, 116] /\ r = 60) \/ (ds = [103, 116] /\ r = 62))) := by
 simp only [escRefs, List.mem_cons, Prod.mk.injEq, List.not_mem_nil, or_false] at h
 rcases h with ⟨rfl, rfl⟩ | ⟨rfl, rfl⟩ | ⟨rfl, rfl⟩ | ⟨rfl, rfl⟩ | ⟨rfl, rfl⟩ | ⟨rfl, rfl⟩ | ⟨rfl, rfl⟩ | ⟨rfl, rfl⟩
 ·exact ⟨by decide, by decide, by decide, .inl ⟨_, rfl, by decide⟩⟩
 ·exact ⟨by decide, by decide, by decide, .inl ⟨_, rfl, by decide⟩⟩
 ·exact ⟨by decide, by decide, by decide, .inl ⟨_, rfl, by decide⟩⟩
 ·exact ⟨by decide, by decide, by decide, .inl ⟨_, rfl, by decide⟩⟩
 ·exact ⟨by decide, by decide, by decide, .inl ⟨_, rfl, by decide⟩⟩
 ·exact ⟨by decide, by decide, by decide, .inr (.inl ⟨rfl, rfl⟩)⟩
 ·exact ⟨by decide, by decide, by decide, .inr (.inr (.inl ⟨rfl, rfl⟩))⟩
 ·exact ⟨by decide, by decide, by decide, .inr (.inr (.inr ⟨rfl, rfl⟩))⟩
theorem nameOk3 (l : List Nat) (h : l = [97, 109, 112] \/ l = [108, 116] \/ l = [103, 116]) : NameOk l := by
 rcases h with rfl | rfl | rfl
 ·exact ⟨⟨97, [109, 112], rfl, by decide, by decide⟩, by decide⟩
 ·exact ⟨⟨108, [116], rfl, by decide, by decide⟩, by decide⟩
 ·exact ⟨⟨103, [116], rfl, by decide, by decide⟩, by decide⟩
theorem info275 : (Tryz.prog.info? 275).map (fun i => (i.zero, i.size, i.bytes)) = some (some (.agg #[.string ⟨#[]⟩, .string ⟨#[]⟩]), 2, 32) := by kernel_rfl
def pairsA : Array Value := #[.string ⟨#[108, 116]⟩, .string ⟨#[60]⟩, .string ⟨#[103, 116]⟩, .string ⟨#[62]⟩, .string ⟨#[97, 109, 112]⟩, .string ⟨#[38]⟩, .string ⟨#[97, 112, 111, 115]⟩, .string ⟨#[39]⟩, .string ⟨#[113, 117, 111, 116]⟩, .string ⟨#[34]⟩]
theorem reference_yes (P : Nat) (s : ByteArray) (a : Nat) (q : PV) (vd : Int) (w : World) (h : PB w P s a q vd) (hz : s.size <= 549755813888) (ha : a <= s.size) (ds : List UInt8) (r : Nat) (hds : (ds, r) ∈ escRefs) (rest : List UInt8) (hL : s.data.toList.drop a = ds ++ 59 :: rest) :
  Calls Tryz.prog 163 #[.pointer (some ⟨P, 0, none⟩)] w fun e w' => e = .returned (.tuple #[.string ⟨(u8 r).toArray⟩, .bool true]) /\ Hid (PB w' P s (a + ds.length + 1) q vd /\ FrP P w w') := by
 obtain ⟨c0, c1, _, _, _, _, _, _, _, cf⟩ := h.c
 obtain ⟨hno, hcr, hdl, hcase⟩ := escRefs_facts hds
 have hsz := at_le hL ha
 replace h := zz h
 replace hno := zz hno
 replace hL := zz hL
 replace hcr := zz hcr
 clear hds
 go_enter Tryz.func163, Tryz.ntmps163
 go_wp2
 go_loopg [4] ds.length (fun k u4 wr => ∃ i : Nat, u4 = .int .i64 ((a + i : Nat) : Int) /\ i + k = ds.length /\ wr = w)
 case atStart => exact ⟨0, rfl, by omega, rfl⟩
 case round =>
  obtain ⟨i, rfl, hi, rfl⟩ := hrel
  by_cases hlt : i < ds.length
  ·have hb : s.data.toList.drop (a + i) = ds[i] :: (ds.drop (i + 1) ++ 59 :: rest) := by
    rw [<- List.drop_drop, hL.out, List.drop_append_of_le_length (by omega), List.drop_eq_getElem_cons hlt, List.cons_append]
   obtain ⟨h1, h2, _⟩ := at_byte hb
   have hne : ds[i] ≠ 59 := fun e => hno.out (e ▸ List.getElem_mem hlt)
   obtain ⟨n, hn⟩ : ∃ n, n = (ds[i]).toNat := ⟨_, rfl⟩
   rw [<- hn] at h2
   have e0 : ((n : Int) != 59) = true := by
    rw [bne_iff_ne]; intro e
    apply hne
    exact UInt8.toNat_inj.1 (by rw [<- hn]; show n = 59; omega)
   obtain ⟨A, hA⟩ : ∃ A, A = a + i := ⟨_, rfl⟩
   rw [<- hA] at h1 h2 ⊢
   have i1 : (A : Int) < (s.size : Int) := by omega
   have i2 : IntKind.i64.wrap ((A : Int) + 1) = ((A + 1 : Nat) : Int) := by rw [IntWalk.i64_in _ (by omega)]; omega
   replace hA := zz hA
   replace hn := zz hn
   replace hi := zz hi
   clear hb hne hsz hcase
   go_wp2
   go_roundg (ds.length - (i + 1))
   case measure => have := hi.out; omega
   case rel => exact ⟨i + 1, congrArg (Value.int .i64) (by have := hA.out; omega), by have := hi.out; omega, rfl⟩
  ·have hie : i = ds.length := by omega
   subst hie
   clear hi hlt
   obtain ⟨A, hA⟩ : ∃ A, A = a + ds.length := ⟨_, rfl⟩
   rw [<- hA] at hsz ⊢
   have hgo := at_go hL.out
   rw [<- hA] at hgo
   obtain ⟨h1, h2, h3⟩ := at_byte hgo
   have h2' : ∀ h : A < s.size, (s[A]'h).toNat = 59 := h2
   have e1 : ((A : Int) == (s.size : Int)) = false := by rw [beq_eq_false_iff_ne]; omega
   have e2 : (A : Int) < (s.size : Int) := by omega
   have e3 : (A : Int) <= (s.size : Int) := by omega
   have e4 : (a : Int) <= (A : Int) := by omega
   have e5 : (0 : Int) <= (a : Int) := by omega
   have i2 : IntKind.i64.wrap ((A : Int) + 1) = ((A + 1 : Nat) : Int) := by rw [IntWalk.i64_in _ (by omega)]; omega
   have hX : (s.extract a A).data.toList = ds := by
    rw [ext_sub, hA, List.take_add, List.drop_append_of_le_length (by simp; omega), List.drop_take_self, List.nil_append, hL.out, List.take_left]
   generalize hXe : s.extract a A = X at *
   have hXs : X.size = ds.length := by rw [Lib.size_eq, hX]
   have hW1 : ∀ nq : Nat, PB ((wr.drewN nq).setCell ⟨P, 1, none⟩ (.int .i64 ((A + 1 : Nat) : Int))) P s (A + 1) q vd /\ FrP P wr ((wr.drewN nq).setCell ⟨P, 1, none⟩ (.int .i64 ((A + 1 : Nat) : Int))) := fun nq => ⟨PB.set1 (w := wr.drewN nq) (h.out.drewN nq) (A + 1), frp_st (frp_of ⟨nq, rfl⟩) _ _⟩
   replace h2 := zz h2
   replace h3 := zz h3
   replace hXe := zz hXe
   replace hgo := zz hgo
   replace hA := zz hA
   replace hsz := zz hsz
   replace hW1 := zz hW1
   rcases hcase with ⟨ds', rfl, hnr⟩ | hnames
   ·have hb : X.data.toList.drop 0 = 35 :: ds' := by rw [List.drop_zero]; exact hX
    obtain ⟨x1, x2, _⟩ := at_byte hb
    have x2' : ∀ h : 0 < X.size, (X[0]'h).toNat = 35 := x2
    have he := toList_ne x1
    have x3 : (0 : Int) < (X.size : Int) := by omega
    have x4 : (1 : Int) <= (X.size : Int) := by omega
    have hX1 : (X.extract 1 X.size).data.toList = ds' := by rw [ext_end, hX]; rfl
    have hnum : ∀ w1, PB w1 P s (A + 1) q vd /\ FrP P wr w1 -> Calls Tryz.prog 176 #[.string (X.extract 1 X.size)] w1 fun e w' => e = .returned (.tuple #[.int .i64 r, .bool true]) /\ Hid (PB w' P s (A + 1) q vd /\ FrP P wr w') := fun w1 hw => by
     refine (number_yes ds' r hnr _ hX1 w1).mono ?_
     rintro e w' ⟨rfl, h1⟩
     exact ⟨rfl, Blk.drw hw.1 h1, frp_tr hw.2 (frp_of h1)⟩
    have hch : ∀ (w1 : World), (PB w1 P s (A + 1) q vd /\ FrP P wr w1) -> Calls Tryz.prog 46 #[.int .i64 r] w1 fun e w' => e = .returned (.bool true) /\ Hid (PB w' P s (A + 1) q vd /\ FrP P wr w') := fun w1 hw => by
     refine (spChar_do r w1).mono ?_
     rintro e w' ⟨rfl, h1⟩
     rw [chI_nat, hcr.out]
     exact ⟨rfl, Blk.drw hw.1 h1, frp_tr hw.2 (frp_of h1)⟩
    have hen : ∀ (w1 : World), (PB w1 P s (A + 1) q vd /\ FrP P wr w1) -> Calls Tryz.prog 177 #[.int .i64 r] w1 fun e w' => e = .returned (.string ⟨(u8 r).toArray⟩) /\ Hid (PB w' P s (A + 1) q vd /\ FrP P wr w') := fun w1 hw => by
     refine (encode_do' r (isCh_ok hcr.out) w1).mono ?_
     rintro e w' ⟨rfl, h1⟩
     exact ⟨rfl, hw.1.keep h1 (fun h => h), hw.2.old h1⟩
    replace hnum := zz hnum
    replace hch := zz hch
    replace hen := zz hen
    clear hX1 hX hXs hb x2 hnr hdl
    go_wp2
    go_quiet (fail)
    rw [hXe.out]
    go_wp2_with (first
     | (go_at_call 176; refine (hnum.out _ (hW1.out nq)).mono ?_; rintro e w2 ⟨rfl, k2⟩)
     | (go_at_call 46; refine (hch.out _ k2.out).mono ?_; rintro e w3 ⟨rfl, k3⟩; clear k2)
     | (go_at_call 177; refine (hen.out _ k3.out).mono ?_; rintro e w5 ⟨rfl, k5⟩))
    go_ret2
    exact ⟨rfl, by rw [<- hA.out]; exact k5.out⟩
   ·have hXl : X.toList = ds := by rw [Go.ByteArray.toList_eq]; exact hX
    have hnk : ∀ w1, PB w1 P s (A + 1) q vd /\ FrP P wr w1 -> Calls Tryz.prog 47 #[.string X] w1 fun e w' => e = .returned (.int .i64 0) /\ Hid (PB w' P s (A + 1) q vd /\ FrP P wr w') := fun w1 hw => by
     have hk : ∃ nm, NameOk nm /\ X.data.toList = nb nm := by
      rcases hnames with ⟨rfl, _⟩ | ⟨rfl, _⟩ | ⟨rfl, _⟩
      ·exact ⟨[97, 109, 112], nameOk3 _ (.inl rfl), hX⟩
      ·exact ⟨[108, 116], nameOk3 _ (.inr (.inl rfl)), hX⟩
      ·exact ⟨[103, 116], nameOk3 _ (.inr (.inr rfl)), hX⟩
     obtain ⟨nm, n1, n2⟩ := hk
     refine (nameKind_yes nm n1 X n2 (by omega) w1).mono ?_
     rintro e w' ⟨rfl, h1⟩
     exact ⟨rfl, Blk.drw hw.1 h1, frp_tr hw.2 (frp_of h1)⟩
    obtain ⟨i0, hi0, hz0, hz1, hz2⟩ := info_parts info275
    replace hnk := zz hnk
    have hold : ∀ (w1 w2 : World), (PB w1 P s (A + 1) q vd /\ FrP P wr w1) -> Old w1 w2 -> (PB w2 P s (A + 1) q vd /\ FrP P wr w2) := fun w1 w2 hw ho => ⟨hw.1.keep ho (fun h => h), hw.2.old ho⟩
    replace hold := zz hold
    have hk3 : ∀ w2 : World, (PB w2 P s (A + 1) q vd /\ FrP P wr w2) -> ∀ cs, (w2.alloc (.cells cs 275)).cell? ⟨P, 3, none⟩ = some (.slice none 0 0) := fun w2 hw cs => by
     have hb : PB (w2.alloc (.cells cs 275)) P s (A + 1) q vd := hw.1.keep ((Fr.refl (fun _ => False) w2).alloc _) (fun h => h)
     exact hb.c.2.2.2.1
    replace hk3 := zz hk3
    have x0 : 0 < X.size := by
     rw [hXs]
     rcases hnames with ⟨rfl, _⟩ | ⟨rfl, _⟩ | ⟨rfl, _⟩ <;> decide
    have he := toList_ne x0
    have x3 : (0 : Int) < (X.size : Int) := by omega
    have hget := get_data X 0
    rw [hX] at hget
    clear hX hXs hdl
    rcases hnames with ⟨rfl, rfl⟩ | ⟨rfl, rfl⟩ | ⟨rfl, rfl⟩
    ·have x2 : ∀ h : 0 < X.size, (X[0]'h).toNat = 97 := hget
     clear hget
     go_wp2
     go_quiet (fail)
     rw [hXe.out]
     go_wp2_with (first
      | (go_at_call 47; refine (hnk.out _ (hW1.out nq)).mono ?_; rintro e w2 ⟨rfl, k2⟩; have k3 := hk3.out w2 k2.out)
      | (at_builtin; refine wpList_append_own_none rfl _ _ 84 rfl 0 275 i0 2 Tryz.underlying84 hi0 _ 5 pairsA.toList rfl (World.ownsRow_lit w2 pairsA 5 (Nat.zero_le _) (by decide) rfl) (by rfl) ?_))
     refine wp_loop_rounds 6 ?_
     rw [rounds_succ]; go_wp2
     rw [rounds_succ]; go_wp2
     rw [rounds_succ]; go_wp2
     go_ret2
     exact ⟨rfl, by rw [<- hA.out]; exact hold.out _ _ k2.out (by repeat (first | exact Fr.refl _ _ | refine Fr.alloc ?_ _))⟩
    ·have x2 : ∀ h : 0 < X.size, (X[0]'h).toNat = 108 := hget
     clear hget
     go_wp2
     go_quiet (fail)
     rw [hXe.out]
     go_wp2_with (first
      | (go_at_call 47; refine (hnk.out _ (hW1.out nq)).mono ?_; rintro e w2 ⟨rfl, k2⟩; have k3 := hk3.out w2 k2.out)
      | (at_builtin; refine wpList_append_own_none rfl _ _ 84 rfl 0 275 i0 2 Tryz.underlying84 hi0 _ 5 pairsA.toList rfl (World.ownsRow_lit w2 pairsA 5 (Nat.zero_le _) (by decide) rfl) (by rfl) ?_))
     refine wp_loop_rounds 6 ?_
     rw [rounds_succ]; go_wp2
     go_ret2
     exact ⟨rfl, by rw [<- hA.out]; exact hold.out _ _ k2.out (by repeat (first | exact Fr.refl _ _ | refine Fr.alloc ?_ _))⟩
    ·have x2 : ∀ h : 0 < X.size, (X[0]'h).toNat = 103 := hget
     clear hget
     go_wp2
     go_quiet (fail)
     rw [hXe.out]
     go_wp2_with (first
      | (go_at_call 47; refine (hnk.out _ (hW1.out nq)).mono ?_; rintro e w2 ⟨rfl, k2⟩; have k3 := hk3.out w2 k2.out)
      | (at_builtin; refine wpList_append_own_none rfl _ _ 84 rfl 0 275 i0 2 Tryz.underlying84 hi0 _ 5 pairsA.toList rfl (World.ownsRow_lit w2 pairsA 5 (Nat.zero_le _) (by decide) rfl) (by rfl) ?_))
     refine wp_loop_rounds 6 ?_
     rw [rounds_succ]; go_wp2
     rw [rounds_succ]; go_wp2
     go_ret2
     exact ⟨rfl, by rw [<- hA.out]; exact hold.out _ _ k2.out (by repeat (first | exact Fr.refl _ _ | refine Fr.alloc ?_ _))⟩
end
end Go.Proofs.YtepbbahdhhjibaaGreatDoor
