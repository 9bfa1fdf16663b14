/- own text -/
import Derived.Test.YtepbbahdhhjibaaGreatDoorC36
namespace Go.Proofs.YtepbbahdhhjibaaGreatDoor
set_option linter.unusedSimpArgs false
set_option linter.unusedVariables false
set_option maxHeartbeats 8000000
set_option maxRecDepth 100000
section
open Go.RowKit
structure SectP (P : Nat) (s : ByteArray) (base a : Nat) (q : PV) (vd : Int) (gs : List GT) (opn : List ByteArray) (bnd : List (List (ByteArray × ByteArray))) (w : World) (e : Ending) (w' : World) : Prop where
 ex : ∃ ok : Bool, e = .returned (.bool ok) /\ ((ok = false /\ FailP P s q w w') \/ (ok = true /\ ∃ q' els rs rest, s.data.toList.drop a = srcs els ++ 62 :: rest /\ Item.ok (.cd els rs) /\ SQ P s base w' (a + (srcs els).length + 1) q' vd (gs ++ [⟨3, ⟨#[]⟩, ⟨#[]⟩, [], nameB rs, (a + (srcs els).length + 1 : Nat)⟩]) opn bnd /\ GoP P q w q' w'))
structure NxS (P : Nat) (s : ByteArray) (a : Nat) (q : PV) (vd : Int) (w : World) (k : Nat) (x : ByteArray) (w1 : World) : Prop where
 ex : ∃ els rs rest, x = nameB rs /\ s.data.toList.drop a = srcs els ++ rest /\ rest.length < k /\ TxS [] true false els rs rest /\ SP P s q vd w (a + (srcs els).length) w1
theorem decode_here (s : ByteArray) (A : Nat) (hz : s.size <= 1000000) (hA : A < s.size) : ∃ r n : Nat, (∀ (w1 : World) (m : Nat), Calls Tryz.prog 45 #[.string (s.extract A s.size)] (w1.drewN m) fun e w' => e = .returned (.tuple #[.int .i64 (r : Nat), .int .i64 (n : Nat)]) /\ ∃ m', w' = w1.drewN m') /\ n <= 4 /\ A + n <= s.size /\ (n ≠ 0 -> s.extract A (A + n) = uB r /\ n = (u8 r).length /\ ∃ rest, s.data.toList.drop A = u8 r ++ rest) := by
 obtain ⟨r, n, hrn, hdc, hn4, hns, hsome⟩ := decode_at (s.extract A s.size)
 rw [ext_end] at hsome hrn
 rw [ext_size] at hns
 refine ⟨r, n, fun w1 => quietly (fun m => hdc (w1.drewN m)), hn4, by omega, fun hn => ?_⟩
 obtain ⟨⟨rest, e1⟩, e2, e3⟩ := hsome hn
 refine ⟨?_, e2, rest, e1⟩
 apply bytes_eq
 rw [ext_sub, e2, List.take_add, List.drop_append_of_le_length (by simp; omega), List.drop_take_self, List.nil_append, e1, List.take_left]
theorem section_do (P : Nat) (s : ByteArray) (base : Nat) (w : World) (a : Nat) (q : PV) (vd : Int) (gs : List GT) (opn : List ByteArray) (bnd : List (List (ByteArray × ByteArray))) (h : SQ P s base w a q vd gs opn bnd) (hz : s.size <= 1000000) (hn : gs.length <= 1000000) (hbase : base <= w.heap.size) (haz : a <= s.size) :
  Calls Tryz.prog 80 #[.pointer (some ⟨P, 0, none⟩)] w (SectP P s base a q vd gs opn bnd w) := by
 replace h := zz h
 replace hn := zz hn
 replace hbase := zz hbase
 go_enter Tryz.func80, Tryz.ntmps80
 go_wp2
 go_loopg [3] (s.size - a) (fun k u3 wr => ∃ els rs rest, u3 = .string (nameB rs) /\ s.data.toList.drop a = srcs els ++ rest /\ rest.length = k /\ TxS [] true false els rs rest /\ SP P s q vd w (a + (srcs els).length) wr)
 case atStart => exact ⟨[], [], s.data.toList.drop a, rfl, rfl, by rw [List.length_drop, <- Lib.size_eq], TxS.nil, SP.start h.out.blk⟩
 case round =>
  obtain ⟨els, rs, rest, rfl, hL, hk, hT, hB⟩ := hrel
  have hsz := at_le hL (by omega)
  have hgo := at_go hL
  obtain ⟨A, hA⟩ : ∃ A, A = a + (srcs els).length := ⟨_, rfl⟩
  rw [<- hA] at hB hsz hgo
  have hAs : A <= s.size := by omega
  obtain ⟨X, hX⟩ : ∃ X, X = nameB rs := ⟨_, rfl⟩
  rw [<- hX]
  have hXz : X.size <= 1000000 := by
   have e1 := elsOut_le hT.ok
   rw [hT.out] at e1
   have e2 : X.size = (nb rs).length := by rw [hX, Lib.size_eq]; rfl
   omega
  have hadd : ∀ (x : ByteArray) (w1 : World), x.size <= 4 -> (Op.stringOp .add X x).run Tryz.prog w1 = .ok (.string (X ++ x)) w1 := fun x w1 hx => run_string_add_sum w1 _ _ (by omega)
  replace hadd := zz hadd
  clear hXz
  rcases lit_or [93, 93, 62] rest with ⟨t', rfl⟩ | hno
  ·have hfin : ∀ w1, SP P s q vd w (A + 3) w1 -> Calls Tryz.prog 129 #[.pointer (some ⟨P, 0, none⟩), .agg #[.int .i64 3, .string ⟨#[]⟩, .string ⟨#[]⟩, .slice none 0 0, .string X, .int .i64 0]] w1 fun e w' => e = .returned (.bool true) /\ Hid (SectP P s base a q vd gs opn bnd w (.returned (.bool true)) w') := fun w1 k => by
    refine (add_sp h.out k hn.out hbase.out 3 ⟨#[]⟩ ⟨#[]⟩ X 0).mono ?_
    rintro e w' ⟨rfl, q', h1, h2⟩
    have el : a + (srcs (els ++ [.by 93, .by 93])).length + 1 = A + 3 := by rw [hA, srcs_app]; simp [srcs, El.src]; omega
    refine ⟨rfl, ⟨true, rfl, .inr ⟨rfl, q', els ++ [.by 93, .by 93], rs, t', ?_, hT.close, ?_, h2⟩⟩⟩
    ·rw [hL, srcs_app]; simp [srcs, El.src]
    ·rw [el, <- hX]; exact h1
   have hh := hB.hasY hz hAs [93, 93, 62] t' hgo (by decide)
   replace hfin := zz hfin
   replace hh := zz hh
   clear hX hT hA hL hsz hgo hk hB hadd
   go_wp2_with (first
    | (go_at_call 129; refine (hfin.out _ k1.out).mono ?_; rintro e w2 ⟨rfl, k2⟩)
    | (go_at_call 76; refine hh.out.mono ?_; rintro e w1 ⟨rfl, _, k1⟩))
   go_ret
   exact k2.out
  ·have hh1 := hB.hasN hz hAs [93, 93, 62] (by rw [hgo]; exact take_ne hno) (by decide)
   replace hh1 := zz hh1
   replace hX := zz hX
   replace hT := zz hT
   replace hA := zz hA
   replace hL := zz hL
   have hf82 := fun (w1 : World) (k : SP P s q vd w A w1) => k.fail 1 (by decide) hAs
   replace hf82 := zz hf82
   replace hk := zz hk
   clear hB
   rcases rest with _ | ⟨c, t⟩
   ·have he := fun (w1 : World) (k : SP P s q vd w A w1) => (k.endY (by simp at hsz; omega)).mono (R' := fun e w' => e = .returned (.bool true) /\ Hid (SP P s q vd w A w')) (fun e w' x => ⟨x.1, k.drw x.2⟩)
    replace he := zz he
    clear hsz hgo hk hno hadd
    go_wp2_with (first
     | (go_at_call 82; refine (hf82.out _ k2.out).mono ?_; rintro e w3 ⟨rfl, k3⟩)
     | (go_at_call 42; refine (he.out _ k1.out).mono ?_; rintro e w2 ⟨rfl, k2⟩)
     | (go_at_call 76; refine hh1.out.mono ?_; rintro e w1 ⟨rfl, _, k1⟩))
    go_ret
    exact ⟨⟨false, rfl, .inl ⟨rfl, k3.out⟩⟩⟩
   ·have h1 : A < s.size := by simp at hsz; omega
    have he := fun (w1 : World) (k : SP P s q vd w A w1) => (k.endN h1).mono (R' := fun e w' => e = .returned (.bool false) /\ Hid (SP P s q vd w A w')) (fun e w' x => ⟨x.1, k.drw x.2⟩)
    replace he := zz he
    have hnx : ∀ (w1 : World) (els' : List El) (r' : Nat) (rest' : List UInt8), s.data.toList.drop A = srcs els' ++ rest' -> srcs els' ≠ [] -> TxS [] true false (els ++ els') (rs ++ [r']) rest' -> SP P s q vd w (A + (srcs els').length) w1 -> NxS P s a q vd w gk (X ++ uB r') w1 := fun w1 els' r' rest' e1 e2 e3 e4 => by
     have hke := hk.out
     have e5 : (c :: t).length = (srcs els').length + rest'.length := by rw [<- hgo, e1, List.length_append]
     have e6 := List.length_pos_iff.2 e2
     refine ⟨⟨els ++ els', rs ++ [r'], rest', by rw [hX.out, nameB_snoc], ?_, by omega, e3, ?_⟩⟩
     ·rw [hL.out, srcs_app, List.append_assoc, <- hgo, e1]
     ·have : a + (srcs (els ++ els')).length = A + (srcs els').length := by rw [hA.out, srcs_app, List.length_append]; omega
      rw [this]; exact e4
    replace hnx := zz hnx
    rcases lit_or [13, 10] (c :: t) with ⟨t', ht⟩ | hno2
    ·have hh := fun (w1 : World) (k : SP P s q vd w A w1) => k.hasY hz hAs [13, 10] t' (hgo.trans ht) (by decide)
     have hf := fun (w1 : World) (k : SP P s q vd w (A + 2) w1) => hnx.out w1 [.by 13, .by 10] 10 t' (hgo.trans ht) (by simp [srcs, El.src]) ((ht ▸ hT.out).crlf (by decide) (by decide)) k
     have hadd10 : ∀ w1, (Op.stringOp .add X ⟨#[10]⟩).run Tryz.prog w1 = .ok (.string (X ++ ⟨#[10]⟩)) w1 := fun w1 => hadd.out _ w1 (by decide)
     replace hh := zz hh
     replace hf := zz hf
     clear hsz hgo hno hnx ht hadd h1
     go_wp2_with (first
      | (go_at_call 76; refine (hh.out _ k2.out).mono ?_; rintro e w3 ⟨rfl, _, k3⟩; clear k2)
      | (go_at_call 42; refine (he.out _ k1.out).mono ?_; rintro e w2 ⟨rfl, k2⟩; clear k1)
      | (go_at_call 76; refine hh1.out.mono ?_; rintro e w1 ⟨rfl, _, k1⟩))
     obtain ⟨⟨els', rs', rest', x1, x2, x3, x4, x5⟩⟩ := hf.out _ k3.out
     go_roundg rest'.length
     case measure => exact x3
     case rel => exact ⟨els', rs', rest', congrArg Value.string x1, x2, rfl, x4, x5⟩
    ·have hh2 := fun (w1 : World) (k : SP P s q vd w A w1) => k.hasN hz hAs [13, 10] (by rw [hgo]; exact take_ne hno2) (by decide)
     replace hh2 := zz hh2
     by_cases h13 : c = 13
     ·subst h13
      have hh := fun (w1 : World) (k : SP P s q vd w A w1) => k.hasY hz hAs [13] t hgo (by decide)
      have hf := fun (w1 : World) (k : SP P s q vd w (A + 1) w1) => hnx.out w1 [.by 13] 10 t hgo (by simp [srcs, El.src]) (hT.out.cr (by decide) (fun t' e => hno2 t' (by rw [e]; rfl))) k
      have hadd10 : ∀ w1, (Op.stringOp .add X ⟨#[10]⟩).run Tryz.prog w1 = .ok (.string (X ++ ⟨#[10]⟩)) w1 := fun w1 => hadd.out _ w1 (by decide)
      replace hh := zz hh
      replace hf := zz hf
      clear hsz hgo hno hno2 hnx hadd h1
      go_wp2_with (first
       | (go_at_call 76; refine (hh.out _ k3.out).mono ?_; rintro e w4 ⟨rfl, _, k4⟩; clear k3)
       | (go_at_call 76; refine (hh2.out _ k2.out).mono ?_; rintro e w3 ⟨rfl, _, k3⟩; clear k2)
       | (go_at_call 42; refine (he.out _ k1.out).mono ?_; rintro e w2 ⟨rfl, k2⟩; clear k1)
       | (go_at_call 76; refine hh1.out.mono ?_; rintro e w1 ⟨rfl, _, k1⟩))
      obtain ⟨⟨els', rs', rest', x1, x2, x3, x4, x5⟩⟩ := hf.out _ k4.out
      go_roundg rest'.length
      case measure => exact x3
      case rel => exact ⟨els', rs', rest', congrArg Value.string x1, x2, rfl, x4, x5⟩
     ·have hh3 := fun (w1 : World) (k : SP P s q vd w A w1) => k.hasN hz hAs [13] (by rw [hgo]; exact take_ne (fun t' e => h13 (by injection e))) (by decide)
      replace hh3 := zz hh3
      obtain ⟨r, n, hd, hn4, hns, hsome⟩ := decode_here s A hz h1
      have i1 : (A : Int) <= (s.size : Int) := by omega
      have i2 : IntKind.i64.wrap ((A : Int) + (n : Int)) = ((A + n : Nat) : Int) := by rw [IntWalk.i64_in _ (by omega)]; omega
      obtain ⟨B, hB⟩ : ∃ B, B = A + n := ⟨_, rfl⟩
      rw [<- hB] at i2 hsome hns
      have i4 : (A : Int) <= (B : Int) := by omega
      have i5 : (B : Int) <= (s.size : Int) := by omega
      have i6 : (0 : Int) <= (A : Int) := by omega
      have hchr : ∀ (w1 : World), SP P s q vd w A w1 -> Calls Tryz.prog 46 #[.int .i64 (r : Nat)] w1 fun e w' => e = .returned (.bool (isCh r)) /\ SPc P s A w' /\ Hid (SP P s q vd w A w') := fun w1 k => by
       refine (spChar_do (r : Int) w1).mono ?_
       rintro e w' ⟨rfl, x⟩
       rw [chI_nat]
       exact ⟨rfl, (k.drw x).c, k.drw x⟩
      have hset : ∀ (w1 : World) (m : Nat), SP P s q vd w A w1 -> SP P s q vd w B ((w1.drewN m).setCell ⟨P, 1, none⟩ (.int .i64 (B : Nat))) := fun w1 m k => (k.drewN m).set1 B
      replace hd := zz hd
      replace hset := zz hset
      by_cases hn : n = 0
      ·have e0 : ((n : Int) == 0) = true := by rw [beq_iff_eq]; omega
       replace hn := zz hn
       replace hB := zz hB
       clear hsz hgo hno hno2 hnx hadd h1 hn4 hns hsome hchr i2 i4 i5
       go_wp2_with (first
        | (go_at_call 76; refine (hh3.out _ k3.out).mono ?_; rintro e w4 ⟨rfl, ⟨c0, c1, cf⟩, k4⟩; clear k3)
        | (go_at_call 76; refine (hh2.out _ k2.out).mono ?_; rintro e w3 ⟨rfl, _, k3⟩; clear k2)
        | (go_at_call 42; refine (he.out _ k1.out).mono ?_; rintro e w2 ⟨rfl, k2⟩; clear k1)
        | (go_at_call 76; refine hh1.out.mono ?_; rintro e w1 ⟨rfl, _, k1⟩))
       go_quiet (first | (go_at_call 45; exact hd.out _ _))
       go_wp2_with (go_at_call 82; refine (hf82.out _ (k4.out.drewN _)).mono ?_; rintro e w5 ⟨rfl, k5⟩)
       go_ret
       exact ⟨⟨false, rfl, .inl ⟨rfl, k5.out⟩⟩⟩
      ·have e0 : ((n : Int) == 0) = false := by rw [beq_eq_false_iff_ne]; omega
       obtain ⟨x1, x2, rest', x3⟩ := hsome hn
       cases hcr : isCh r
       ·rw [hcr] at hchr
        replace hn := zz hn
        replace hB := zz hB
        replace hchr := zz hchr
        clear hsz hgo hno hno2 hnx hadd h1 hn4 hns hsome i2 i4 i5 x1 x2 x3
        go_wp2_with (first
         | (go_at_call 76; refine (hh3.out _ k3.out).mono ?_; rintro e w4 ⟨rfl, ⟨c0, c1, cf⟩, k4⟩; clear k3)
         | (go_at_call 76; refine (hh2.out _ k2.out).mono ?_; rintro e w3 ⟨rfl, _, k3⟩; clear k2)
         | (go_at_call 42; refine (he.out _ k1.out).mono ?_; rintro e w2 ⟨rfl, k2⟩; clear k1)
         | (go_at_call 76; refine hh1.out.mono ?_; rintro e w1 ⟨rfl, _, k1⟩))
        go_quiet (first | (go_at_call 45; exact hd.out _ _))
        go_wp2_with (first
         | (go_at_call 82; refine (hf82.out _ k5.out).mono ?_; rintro e w6 ⟨rfl, k6⟩)
         | (go_at_call 46; refine (hchr.out _ (k4.out.drewN _)).mono ?_; rintro e w5 ⟨rfl, _, k5⟩))
        go_ret
        exact ⟨⟨false, rfl, .inl ⟨rfl, k6.out⟩⟩⟩
       ·rw [hcr] at hchr
        have hB' : B = A + (srcs ((YtepbbahdhhjibaaGreatDoor.u8 r).map .by)).length := by rw [srcs_byl, hB, x2]
        have hf := fun (w1 : World) (k : SP P s q vd w B w1) => hnx.out w1 ((YtepbbahdhhjibaaGreatDoor.u8 r).map .by) r rest' (by rw [srcs_byl]; exact x3) (by rw [srcs_byl]; intro e; have := (u8_len r).1; rw [e] at this; exact absurd this (by decide)) ((by
          have hT' := hT.out
          rw [<- hgo, x3] at hT'
          refine hT'.char hcr (fun c hc => (by cases hc)) ?_ (fun _ t' e => hno t' (by rw [<- hgo, x3, e]; rfl))
          rintro rfl
          apply h13
          rw [hgo] at x3
          have : (YtepbbahdhhjibaaGreatDoor.u8 13) = [13] := by decide
          rw [this] at x3
          injection x3)) (hB' ▸ k)
        have hadd1 : ∀ w1, (Op.stringOp .add X (s.extract A B)).run Tryz.prog w1 = .ok (.string (X ++ uB r)) w1 := fun w1 => by
         rw [x1]; exact hadd.out _ w1 (u8_len r).2
        have hcw := fun (w1 : World) (m : Nat) (k : SP P s q vd w A w1) => (k.drewN m).c
        replace hcw := zz hcw
        replace hf := zz hf
        replace hn := zz hn
        replace hB := zz hB
        replace hchr := zz hchr
        clear hsz hgo hno hno2 hnx hadd h1 hn4 hns hsome x1 x2 x3 hB'
        go_wp2_with (first
         | (go_at_call 76; refine (hh3.out _ k3.out).mono ?_; rintro e w4 ⟨rfl, ⟨c0, c1, cf⟩, k4⟩; clear k3)
         | (go_at_call 76; refine (hh2.out _ k2.out).mono ?_; rintro e w3 ⟨rfl, _, k3⟩; clear k2)
         | (go_at_call 42; refine (he.out _ k1.out).mono ?_; rintro e w2 ⟨rfl, k2⟩; clear k1)
         | (go_at_call 76; refine hh1.out.mono ?_; rintro e w1 ⟨rfl, _, k1⟩))
        go_quiet (first | (go_at_call 45; exact hd.out _ _))
        go_wp2_with (go_at_call 46; refine (hchr.out _ (k4.out.drewN _)).mono ?_; rintro e w5 ⟨rfl, ⟨d0, d1, df⟩, k5⟩)
        clear c0 c1 cf
        go_quiet (fail)
        go_wp2
        obtain ⟨⟨els', rs', rest', y1, y2, y3, y4, y5⟩⟩ := hf.out _ (hset.out _ _ k5.out)
        go_roundg rest'.length
        case measure => exact y3
        case rel => exact ⟨els', rs', rest', congrArg Value.string y1, y2, rfl, y4, y5⟩
end
section
open Go.RowKit
def UpTo (lit ds rest : List UInt8) : Prop := ∀ j, j < ds.length -> ∀ t, (ds ++ rest).drop j ≠ lit ++ t
theorem UpTo.snoc {lit ds : List UInt8} {c : UInt8} {rest : List UInt8} (h : UpTo lit ds (c :: rest)) (hn : ∀ t, c :: rest ≠ lit ++ t) : UpTo lit (ds ++ [c]) rest := by
 intro j hj t
 rw [List.append_assoc]
 by_cases hd : j < ds.length
 ·exact h j hd t
 ·have : j = ds.length := by simp at hj; omega
  subst this
  rw [List.drop_append_of_le_length (Nat.le_refl _), List.drop_length]
  exact hn t
theorem UpTo.path {d : List UInt8} {t0 : List UInt8} : ∀ (b0 b1 : UInt8), UpTo [45, 45] d (45 :: 45 :: 62 :: t0) -> ¬ (b0 = 45 /\ b1 = 45) -> (b1 = 45 -> ∀ t, d ++ 45 :: 45 :: 62 :: t0 ≠ 45 :: t) -> pathCM b0 b1 (d ++ [45, 45, 62]) := by
 induction d with
 | nil =>
  intro b0 b1 _ h1 h2
  have h3 : ¬ b1 = 45 := fun e => h2 e _ rfl
  exact ⟨h1, fun e => h3 e.1, rfl, rfl, rfl⟩
 | cons c d ih =>
  intro b0 b1 h h1 h2
  have hp : pathCM b1 c (d ++ [45, 45, 62]) := by
   refine ih b1 c (fun j hj t => h (j + 1) (by simp; omega) t) (fun e => ?_) (fun e t => ?_)
   ·obtain ⟨e1, rfl⟩ := e
    exact h2 e1 _ rfl
   ·subst e
    have := h 0 (by simp) t
    intro e
    apply this
    show 45 :: (d ++ 45 :: 45 :: 62 :: t0) = 45 :: 45 :: t
    rw [e]
  have : ∃ x y, d ++ [45, 45, 62] = x :: y := by cases d <;> exact ⟨_, _, rfl⟩
  obtain ⟨x, y, e⟩ := this
  show pathCM b0 b1 (c :: (d ++ [45, 45, 62]))
  rw [e] at hp ⊢
  exact ⟨h1, hp⟩
structure ComP (P : Nat) (s : ByteArray) (base a : Nat) (q : PV) (vd : Int) (gs : List GT) (opn : List ByteArray) (bnd : List (List (ByteArray × ByteArray))) (w : World) (e : Ending) (w' : World) : Prop where
 ex : ∃ ok : Bool, e = .returned (.bool ok) /\ ((ok = false /\ FailP P s q w w') \/ (ok = true /\ ∃ q' d rest, s.data.toList.drop a = d ++ 45 :: 45 :: 62 :: rest /\ pathCM 0 0 (d ++ [45, 45, 62]) /\ SQ P s base w' (a + d.length + 3) q' vd (gs ++ [⟨4, ⟨#[]⟩, ⟨#[]⟩, [], ⟨d.toArray⟩, (a + d.length + 3 : Nat)⟩]) opn bnd /\ GoP P q w q' w'))
theorem comment_do (P : Nat) (s : ByteArray) (base : Nat) (w : World) (a : Nat) (q : PV) (vd : Int) (gs : List GT) (opn : List ByteArray) (bnd : List (List (ByteArray × ByteArray))) (h : SQ P s base w a q vd gs opn bnd) (hz : s.size <= 1000000) (hn : gs.length <= 1000000) (hbase : base <= w.heap.size) (haz : a <= s.size) :
  Calls Tryz.prog 79 #[.pointer (some ⟨P, 0, none⟩)] w (ComP P s base a q vd gs opn bnd w) := by
 obtain ⟨c0, c1, _⟩ := h.blk.c
 replace h := zz h
 replace hn := zz hn
 replace hbase := zz hbase
 go_enter Tryz.func79, Tryz.ntmps79
 go_wp2
 clear c0 c1
 go_loopg [9] (s.size - a) (fun k u9 wr => ∃ ds rest, s.data.toList.drop a = ds ++ rest /\ rest.length = k /\ UpTo [45, 45] ds rest /\ SP P s q vd w (a + ds.length) wr)
 case atStart => exact ⟨[], s.data.toList.drop a, rfl, by rw [List.length_drop, <- Lib.size_eq], fun j hj => absurd hj (Nat.not_lt_zero _), SP.start h.out.blk⟩
 case round =>
  obtain ⟨ds, rest, hL, hk, hT, hB⟩ := hrel
  have hsz := at_le hL (by omega)
  have hgo := at_go hL
  obtain ⟨A, hA⟩ : ∃ A, A = a + ds.length := ⟨_, rfl⟩
  rw [<- hA] at hB hsz hgo
  have hAs : A <= s.size := by omega
  rcases lit_or [45, 45] rest with ⟨t', rfl⟩ | hno
  ·have hh := hB.hasY hz hAs [45, 45] t' hgo (by decide)
   have hA2 : A + 2 <= s.size := by simp at hsz; omega
   have hgo2 : s.data.toList.drop (A + 2) = t' := at_go (l := [45, 45]) hgo
   have i1 : IntKind.i64.wrap (((A + 2 : Nat) : Int) - 2) = (A : Int) := by rw [IntWalk.i64_in _ (by omega)]; omega
   obtain ⟨B, hB2⟩ : ∃ B, B = A + 2 := ⟨_, rfl⟩
   have hh' : Calls Tryz.prog 76 #[.pointer (some ⟨P, 0, none⟩), .string ⟨#[45, 45]⟩] wr fun e w' => e = .returned (.bool true) /\ SPc P s B w' /\ Hid (SP P s q vd w B w') := by rw [hB2]; exact hh
   rw [<- hB2] at hA2 hgo2 i1
   have i2 : (0 : Int) <= (a : Int) := by omega
   have i3 : (a : Int) <= (A : Int) := by omega
   have i4 : (A : Int) <= (s.size : Int) := by omega
   have hX : (s.extract a A).data.toList = ds := by
    rw [ext_sub, hA, List.take_add, List.drop_append_of_le_length (by simp; omega), List.drop_take_self, List.nil_append, hL, List.take_left]
   generalize hXe : s.extract a A = X at *
   have hXl : X.size <= 1000000 := by rw [Lib.size_eq, hX]; omega
   have hfl : ∀ (w1 : World) (b : Nat) (v : Int), b <= s.size -> v ≠ 0 -> SP P s q vd w b w1 -> Calls Tryz.prog 82 #[.pointer (some ⟨P, 0, none⟩), .int .i64 v] w1 fun e w' => e = .returned (.bool false) /\ Hid (FailP P s q w w') := fun w1 b v hb hv k => k.fail v hv hb
   rcases lit_or [62] t' with ⟨t2, rfl⟩ | hno
   ·have hg := fun (w1 : World) (k : SP P s q vd w B w1) => k.hasY hz hA2 [62] t2 hgo2 (by decide)
    have hB3 : B + 1 <= s.size := by have := at_le hgo2 hA2; simp at this; omega
    have hv : ∀ (w1 : World), SP P s q vd w (B + 1) w1 -> Calls Tryz.prog 24 #[.string X] w1 fun e w' => ∃ b : Bool, e = .returned (.bool b) /\ Hid (SP P s q vd w (B + 1) w') := fun w1 k => by
     refine (verbatim_do X w1 hXl).mono ?_
     rintro e w' ⟨b, rfl, x⟩
     exact ⟨b, rfl, k.drw x⟩
    have hf82 := fun w1 => hfl w1 (B + 1) 2 hB3 (by decide)
    have hfin : ∀ w1, SP P s q vd w (B + 1) w1 -> Calls Tryz.prog 129 #[.pointer (some ⟨P, 0, none⟩), .agg #[.int .i64 4, .string ⟨#[]⟩, .string ⟨#[]⟩, .slice none 0 0, .string X, .int .i64 0]] w1 fun e w' => e = .returned (.bool true) /\ Hid (ComP P s base a q vd gs opn bnd w (.returned (.bool true)) w') := fun w1 k => by
     refine (add_sp h.out k hn.out hbase.out 4 ⟨#[]⟩ ⟨#[]⟩ X 0).mono ?_
     rintro e w' ⟨rfl, q', h1, h2⟩
     have el : a + ds.length + 3 = B + 1 := by omega
     have ex : (⟨ds.toArray⟩ : ByteArray) = X := bytes_eq (by rw [hX])
     refine ⟨rfl, ⟨true, rfl, .inr ⟨rfl, q', ds, t2, hL, UpTo.path 0 0 hT (by decide) (fun e => absurd e (by decide)), ?_, h2⟩⟩⟩
     rw [el, ex]; exact h1
    replace hfin := zz hfin
    replace hf82 := zz hf82
    replace hv := zz hv
    replace hg := zz hg
    replace hh' := zz hh'
    replace hXe := zz hXe
    clear hX hXl hT hA hL hsz hgo hgo2 hk hB hB2 hh hfl hA2 hB3 hAs
    go_wp2_with (go_at_call 76; refine hh'.out.mono ?_; rintro e w1 ⟨rfl, ⟨c0, c1, cf⟩, k1⟩)
    go_quiet (fail)
    rw [hXe.out]
    go_wp2_with (first
     | (go_at_call 129; refine (hfin.out _ k3.out).mono ?_; rintro e w4 ⟨rfl, k4⟩)
     | (go_at_call 82; refine (hf82.out _ k3.out).mono ?_; rintro e w4 ⟨rfl, k5⟩)
     | (go_at_call 24; refine (hv.out _ k2.out).mono ?_; rintro e w3 ⟨b, rfl, k3⟩)
     | (go_at_call 76; refine (hg.out _ (k1.out.drewN _)).mono ?_; rintro e w2 ⟨rfl, _, k2⟩))
    all_goals first
     | (go_ret; exact k4.out)
     | (go_ret; exact ⟨⟨false, rfl, .inl ⟨rfl, k5.out⟩⟩⟩)
   ·have hg := fun (w1 : World) (k : SP P s q vd w B w1) => k.hasN hz hA2 [62] (by rw [hgo2]; exact take_ne hno) (by decide)
    have hf82 := fun w1 => hfl w1 B 1 hA2 (by decide)
    replace hf82 := zz hf82
    replace hg := zz hg
    replace hh' := zz hh'
    replace hXe := zz hXe
    clear hX hXl hT hA hL hsz hgo hgo2 hk hB hB2 hh hfl hA2 hAs hno
    go_wp2_with (go_at_call 76; refine hh'.out.mono ?_; rintro e w1 ⟨rfl, ⟨c0, c1, cf⟩, k1⟩)
    go_quiet (fail)
    rw [hXe.out]
    go_wp2_with (first
     | (go_at_call 82; refine (hf82.out _ k2.out).mono ?_; rintro e w4 ⟨rfl, k5⟩)
     | (go_at_call 76; refine (hg.out _ (k1.out.drewN _)).mono ?_; rintro e w2 ⟨rfl, _, k2⟩))
    go_ret
    exact ⟨⟨false, rfl, .inl ⟨rfl, k5.out⟩⟩⟩
  ·have hh1 := hB.hasN hz hAs [45, 45] (by rw [hgo]; exact take_ne hno) (by decide)
   replace hh1 := zz hh1
   have hf82 := fun (w1 : World) (k : SP P s q vd w A w1) => k.fail 1 (by decide) hAs
   replace hf82 := zz hf82
   rcases rest with _ | ⟨c, t⟩
   ·have he := fun (w1 : World) (k : SP P s q vd w A w1) => (k.endY (by simp at hsz; omega)).mono (R' := fun e w' => e = .returned (.bool true) /\ Hid (SP P s q vd w A w')) (fun e w' x => ⟨x.1, k.drw x.2⟩)
    replace he := zz he
    clear hsz hgo hk hno hB hT hL hA
    go_wp2_with (first
     | (go_at_call 82; refine (hf82.out _ k2.out).mono ?_; rintro e w3 ⟨rfl, k3⟩)
     | (go_at_call 42; refine (he.out _ k1.out).mono ?_; rintro e w2 ⟨rfl, k2⟩)
     | (go_at_call 76; refine hh1.out.mono ?_; rintro e w1 ⟨rfl, _, k1⟩))
    go_ret
    exact ⟨⟨false, rfl, .inl ⟨rfl, k3.out⟩⟩⟩
   ·have h1 : A < s.size := by simp at hsz; omega
    have he := fun (w1 : World) (k : SP P s q vd w A w1) => (k.endN h1).mono (R' := fun e w' => e = .returned (.bool false) /\ SPc P s A w' /\ Hid (SP P s q vd w A w')) (fun e w' x => ⟨x.1, (k.drw x.2).c, k.drw x.2⟩)
    have i2 : IntKind.i64.wrap ((A : Int) + 1) = ((A + 1 : Nat) : Int) := by rw [IntWalk.i64_in _ (by omega)]; omega
    have hfin : ∀ w1, SP P s q vd w A w1 -> ∃ ds rest, rest.length < gk /\ s.data.toList.drop a = ds ++ rest /\ UpTo [45, 45] ds rest /\ SP P s q vd w (a + ds.length) (w1.setCell ⟨P, 1, none⟩ (.int .i64 (A + 1 : Nat))) := fun w1 k => by
     refine ⟨ds ++ [c], t, ?_, by rw [hL]; simp, hT.snoc hno, ?_⟩
     ·simp at hk; omega
     ·have e : a + (ds ++ [c]).length = A + 1 := by rw [hA]; simp; omega
      rw [e]; exact k.set1 (A + 1)
    replace he := zz he
    replace hfin := zz hfin
    clear hsz hgo hk hno hB hT hL hA hf82 h1
    go_wp2_with (first
     | (go_at_call 42; refine (he.out _ k1.out).mono ?_; rintro e w2 ⟨rfl, ⟨c0, c1, cf⟩, k2⟩)
     | (go_at_call 76; refine hh1.out.mono ?_; rintro e w1 ⟨rfl, _, k1⟩))
    obtain ⟨ds', rest', y1, y2, y3, y4⟩ := hfin.out _ k2.out
    go_roundg rest'.length
    case measure => exact y1
    case rel => exact ⟨ds', rest', y2, rfl, y3, y4⟩
end
end Go.Proofs.YtepbbahdhhjibaaGreatDoor
