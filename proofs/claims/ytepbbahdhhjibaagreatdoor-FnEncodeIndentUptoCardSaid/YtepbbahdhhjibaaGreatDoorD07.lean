/- own text -/
import Derived.WalkMore
import Derived.ScopeJumps
import Derived.Deep.Cut
import Derived.Test.YtepbbahdhhjibaaGreatDoorD06
namespace Go.Proofs.YtepbbahdhhjibaaGreatDoor
set_option linter.unusedSimpArgs false
set_option linter.unusedVariables false
set_option maxHeartbeats 200000
set_option maxRecDepth 100000
section
open Go.RowKit
inductive El where
 | by (c : UInt8)
 | num (hex : Bool) (ds : List UInt8)
 | nam (s : List UInt8) (r : Nat)
def El.base (hex : Bool) : Nat := if hex then 16 else 10
def El.src : El -> List UInt8
 | .by c => [c]
 | .num hex ds => 38 :: 35 :: ((if hex then [120] else []) ++ ds ++ [59])
 | .nam s _ => 38 :: (s ++ [59])
def srcs (l : List El) : List UInt8 := l.flatMap El.src
def El.next (b1 : UInt8) : El -> UInt8 × UInt8
 | .by c => (b1, c)
 | _ => (0, 0)
def El.out (b1 : UInt8) : El -> List UInt8
 | .by c => if c = 13 then [10] else if b1 = 13 /\ c = 10 then [] else [c]
 | .num hex ds => u8 (numFrom (El.base hex) 0 ds)
 | .nam _ r => u8 r
def El.ok (q : List UInt8) (chk : Bool) (refs : Bool) (b0 b1 : UInt8) : El -> Prop
 | .by c => c ∉ q /\ ¬ (chk = true /\ b0 = 93 /\ b1 = 93 /\ c = 62)
 | .num hex ds => refs = true /\ ds ≠ [] /\ (∀ c ∈ ds, isDig (El.base hex) c = true) /\ isCh (numFrom (El.base hex) 0 ds) = true
 | .nam s r => refs = true /\ (s, r) ∈ ents
def elsOk (q : List UInt8) (chk refs : Bool) : UInt8 -> UInt8 -> List El -> Prop
 | _, _, [] => True
 | b0, b1, e :: l => e.ok q chk refs b0 b1 /\ elsOk q chk refs (e.next b1).1 (e.next b1).2 l
def elsOut : UInt8 -> List El -> List UInt8
 | _, [] => []
 | b1, e :: l => e.out b1 ++ elsOut (e.next b1).2 l
def elsEnd : UInt8 -> UInt8 -> List El -> UInt8 × UInt8
 | b0, b1, [] => (b0, b1)
 | _, b1, e :: l => elsEnd (e.next b1).1 (e.next b1).2 l
theorem srcs_cons (e : El) (l : List El) : srcs (e :: l) = e.src ++ srcs l := rfl
theorem numFrom_lt {hex : Bool} {ds : List UInt8} (h : isCh (numFrom (El.base hex) 0 ds) = true) : numFrom (El.base hex) 0 ds <= 1114111 := by
 simp only [isCh, decide_eq_true_eq] at h; omega
theorem ents_ok {s : List UInt8} {r : Nat} (h : (s, r) ∈ ents) : r < 128 /\ isCh r = true /\ s ≠ [] /\ s.length <= 4 := by
 simp only [ents, List.mem_cons, Prod.mk.injEq, List.not_mem_nil, or_false] at h
 rcases h with ⟨rfl, rfl⟩ | ⟨rfl, rfl⟩ | ⟨rfl, rfl⟩ | ⟨rfl, rfl⟩ | ⟨rfl, rfl⟩ <;> decide
theorem ents_nm {s : List UInt8} {r : Nat} (h : (s, r) ∈ ents) : (∀ b ∈ s, nmB b = true) /\ ∃ x t, s = nb (x :: t) /\ nSt x = true /\ ∀ y ∈ t, nCt y = true := by
 simp only [ents, List.mem_cons, Prod.mk.injEq, List.not_mem_nil, or_false] at h
 rcases h with ⟨rfl, rfl⟩ | ⟨rfl, rfl⟩ | ⟨rfl, rfl⟩ | ⟨rfl, rfl⟩ | ⟨rfl, rfl⟩
 ·exact ⟨by decide, 108, [116], by decide, by decide, by decide⟩
 ·exact ⟨by decide, 103, [116], by decide, by decide, by decide⟩
 ·exact ⟨by decide, 97, [109, 112], by decide, by decide, by decide⟩
 ·exact ⟨by decide, 97, [112, 111, 115], by decide, by decide, by decide⟩
 ·exact ⟨by decide, 113, [117, 111, 116], by decide, by decide, by decide⟩
end
section
open Go.RowKit
def firstLoop : Code -> Option Code
 | .loop c => some c
 | .seq a b => match firstLoop a with
  | some c => some c
  | none => firstLoop b
 | .block _ c => firstLoop c
 | .scope c => firstLoop c
 | .cond _ a b => match firstLoop a with
  | some c => some c
  | none => firstLoop b
 | _ => none
noncomputable def body113 : Code := ((Tryz.f113.body.bind firstLoop).getD .skip)
theorem u8_eq {b : UInt8} {n : Nat} (h : ((b.toNat : Int) == (n : Int)) = true) : b = UInt8.ofNat n := by
 rw [beq_iff_eq] at h
 have : b.toNat = n := by omega
 rw [<- this]; simp
theorem u8_neq {b : UInt8} {n : Nat} (h : ((b.toNat : Int) == (n : Int)) = false) (hn : n < 256 := by decide) : ¬ b = UInt8.ofNat n := by
 rw [beq_eq_false_iff_ne] at h
 rintro rfl
 rw [ofNat_toNat hn] at h
 exact h rfl
structure FrT (D : Nat) (Q cd : Value) (c0 c1 : UInt8) (t : Array Value) : Prop where
 size : t.size = 381
 s0 : t[0]? = some (.pointer (some ⟨D, 0, none⟩))
 s1 : t[1]? = some Q
 s2 : t[2]? = some cd
 s6 : t[6]? = some (.slice none 0 0)
 s7 : t[7]? = some (.int .u8 c0.toNat)
 s8 : t[8]? = some (.int .u8 c1.toNat)
 s9 : t[9]? = some (.int .i64 0)
theorem Dec.rowOf {E : Dx} {w : World} {p : Pa} {v : Value} {bs strm : List UInt8} {nb eo : Bool} (h : Dec E w p v bs nb eo strm) (hne : v ≠ .slice none 0 0 \/ bs ≠ []) : ∃ g cap, v = .slice (some ⟨g, 0, none⟩) bs.length cap /\ bs.length <= cap /\ Lies w g 0 bs := by
 rcases h.row with ⟨rfl, rfl⟩ | ⟨g, cap, cells, rfl, hr⟩
 ·exact absurd hne (by simp)
 ·obtain ⟨k1, k2, k3⟩ := BufRow.lies h.row
  exact ⟨g, cap, rfl, k2, k3⟩
theorem Lies.str {w : World} {g o n cap : Nat} {s : List UInt8} (h : Lies w g o s) (hn : n = s.length) : (convert 56 9 (.slice (some ⟨g, o, none⟩) n cap)).run Tryz.prog w = .ok (.string ⟨s.toArray⟩) w := by
 subst hn
 refine run_convert_bytes_back w 56 9 5 ⟨g, o, none⟩ cap s Tryz.underlying56 Tryz.underlying5 Tryz.underlying9 ?_
 intro j hj
 rw [Lib.addr_add]
 exact h j _ (List.getElem?_eq_getElem hj)
theorem encode_size (r : Nat) (h : okR r) : 0 < (Utf8.encode r).size /\ (Utf8.encode r).size <= 64 := by
 have := u8_len r
 rw [Lib.size_eq, encode_u8 r h]
 omega
def gT (D : Nat) (Q cd : Value) (c0 c1 : UInt8) (u : Nat -> Value) : Nat -> Value
 | 0 => .pointer (some ⟨D, 0, none⟩)
 | 1 => Q
 | 2 => cd
 | 6 => .slice none 0 0
 | 7 => .int .u8 c0.toNat
 | 8 => .int .u8 c1.toNat
 | 9 => .int .i64 0
 | k => u k
theorem gT_lit (D : Nat) (Q cd : Value) (c0 c1 : UInt8) (u : Nat -> Value) : ((List.range 381).map (gT D Q cd c0 c1 u)).toArray = #[.pointer (some ⟨D, 0, none⟩), Q, cd, u 3, u 4, u 5, .slice none 0 0, .int .u8 c0.toNat, .int .u8 c1.toNat, .int .i64 0, u 10, u 11, u 12, u 13, u 14, u 15, u 16, u 17, u 18, u 19, u 20, u 21, u 22, u 23, u 24, u 25, u 26, u 27, u 28, u 29, u 30, u 31, u 32, u 33, u 34, u 35, u 36, u 37, u 38, u 39, u 40, u 41, u 42, u 43, u 44, u 45, u 46, u 47, u 48, u 49, u 50, u 51, u 52, u 53, u 54, u 55, u 56, u 57, u 58, u 59, u 60, u 61, u 62, u 63, u 64, u 65, u 66, u 67, u 68, u 69, u 70, u 71, u 72, u 73, u 74, u 75, u 76, u 77, u 78, u 79, u 80, u 81, u 82, u 83, u 84, u 85, u 86, u 87, u 88, u 89, u 90, u 91, u 92, u 93, u 94, u 95, u 96, u 97, u 98, u 99, u 100, u 101, u 102, u 103, u 104, u 105, u 106, u 107, u 108, u 109, u 110, u 111, u 112, u 113, u 114, u 115, u 116, u 117, u 118, u 119, u 120, u 121, u 122, u 123, u 124, u 125, u 126, u 127, u 128, u 129, u 130, u 131, u 132, u 133, u 134, u 135, u 136, u 137, u 138, u 139, u 140, u 141, u 142, u 143, u 144, u 145, u 146, u 147, u 148, u 149, u 150, u 151, u 152, u 153, u 154, u 155, u 156, u 157, u 158, u 159, u 160, u 161, u 162, u 163, u 164, u 165, u 166, u 167, u 168, u 169, u 170, u 171, u 172, u 173, u 174, u 175, u 176, u 177, u 178, u 179, u 180, u 181, u 182, u 183, u 184, u 185, u 186, u 187, u 188, u 189, u 190, u 191, u 192, u 193, u 194, u 195, u 196, u 197, u 198, u 199, u 200, u 201, u 202, u 203, u 204, u 205, u 206, u 207, u 208, u 209, u 210, u 211, u 212, u 213, u 214, u 215, u 216, u 217, u 218, u 219, u 220, u 221, u 222, u 223, u 224, u 225, u 226, u 227, u 228, u 229, u 230, u 231, u 232, u 233, u 234, u 235, u 236, u 237, u 238, u 239, u 240, u 241, u 242, u 243, u 244, u 245, u 246, u 247, u 248, u 249, u 250, u 251, u 252, u 253, u 254, u 255, u 256, u 257, u 258, u 259, u 260, u 261, u 262, u 263, u 264, u 265, u 266, u 267, u 268, u 269, u 270, u 271, u 272, u 273, u 274, u 275, u 276, u 277, u 278, u 279, u 280, u 281, u 282, u 283, u 284, u 285, u 286, u 287, u 288, u 289, u 290, u 291, u 292, u 293, u 294, u 295, u 296, u 297, u 298, u 299, u 300, u 301, u 302, u 303, u 304, u 305, u 306, u 307, u 308, u 309, u 310, u 311, u 312, u 313, u 314, u 315, u 316, u 317, u 318, u 319, u 320, u 321, u 322, u 323, u 324, u 325, u 326, u 327, u 328, u 329, u 330, u 331, u 332, u 333, u 334, u 335, u 336, u 337, u 338, u 339, u 340, u 341, u 342, u 343, u 344, u 345, u 346, u 347, u 348, u 349, u 350, u 351, u 352, u 353, u 354, u 355, u 356, u 357, u 358, u 359, u 360, u 361, u 362, u 363, u 364, u 365, u 366, u 367, u 368, u 369, u 370, u 371, u 372, u 373, u 374, u 375, u 376, u 377, u 378, u 379, u 380] := by kernel_rfl
def TM (qs : List UInt8) (fl : Bool) (Q : Int) : Prop := qs = [60, 38] /\ fl = true /\ Q = -1 \/ qs = [60, 38, 34] /\ fl = false /\ Q = 34 \/ qs = [60, 38, 39] /\ fl = false /\ Q = 39
theorem tmx : TM [60, 38] true (-1) := .inl ⟨rfl, rfl, rfl⟩
theorem tm34 : TM [60, 38, 34] false 34 := .inr (.inl ⟨rfl, rfl, rfl⟩)
theorem tm39 : TM [60, 38, 39] false 39 := .inr (.inr ⟨rfl, rfl, rfl⟩)
end
section
open Go.RowKit
structure FrE (D : Nat) (n : Int) (t : Array Value) : Prop where
 size : t.size = 381
 s0 : t[0]? = some (.pointer (some ⟨D, 0, none⟩))
 s6 : t[6]? = some (.slice none 0 0)
 s9 : t[9]? = some (.int .i64 n)
end
end Go.Proofs.YtepbbahdhhjibaaGreatDoor
