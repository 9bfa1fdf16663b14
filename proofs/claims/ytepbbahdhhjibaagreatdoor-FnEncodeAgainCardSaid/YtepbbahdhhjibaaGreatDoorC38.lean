/- own text -/
import Derived.Test.YtepbbahdhhjibaaGreatDoorC37
namespace Go.Proofs.YtepbbahdhhjibaaGreatDoor
set_option linter.unusedSimpArgs false
set_option linter.unusedVariables false
set_option maxHeartbeats 8000000
set_option maxRecDepth 100000
section
open Go.RowKit
theorem UpTo.pathPI {d : List UInt8} {t0 : List UInt8} : ∀ (b0 : UInt8), UpTo [63, 62] d (63 :: 62 :: t0) -> (b0 = 63 -> ∀ t, d ++ 63 :: 62 :: t0 ≠ 62 :: t) -> YtepbbahdhhjibaaGreatDoor.pathPI b0 (d ++ [63, 62]) := by
 induction d with
 | nil => intro b0 _ h2; exact ⟨fun e => absurd e.2 (by decide), rfl, rfl⟩
 | cons c d ih =>
  intro b0 h h2
  have hp : YtepbbahdhhjibaaGreatDoor.pathPI c (d ++ [63, 62]) := by
   refine ih c (fun j hj t => h (j + 1) (by simp; omega) t) (fun e t => ?_)
   subst e
   have := h 0 (by simp) t
   intro e
   apply this
   show 63 :: (d ++ 63 :: 62 :: t0) = 63 :: 62 :: t
   rw [e]
  have : ∃ x y, d ++ [63, 62] = x :: y := by cases d <;> exact ⟨_, _, rfl⟩
  obtain ⟨x, y, e⟩ := this
  show YtepbbahdhhjibaaGreatDoor.pathPI b0 (c :: (d ++ [63, 62]))
  rw [e] at hp ⊢
  exact ⟨fun e2 => h2 e2.1 _ (by rw [e2.2]; rfl), hp⟩
structure PiP (P : Nat) (s : ByteArray) (base a : Nat) (q : PV) (vd : Int) (gs : List GT) (opn : List ByteArray) (bnd : List (List (ByteArray × ByteArray))) (w : World) (e : Ending) (w' : World) : Prop where
 ex : ∃ ok : Bool, e = .returned (.bool ok) /\ ((ok = false /\ FailP P s q w w') \/ (ok = true /\ ∃ q' nm ws d rest a', s.data.toList.drop a = nb nm ++ (ws ++ (d ++ 63 :: 62 :: rest)) /\ a' = a + (nb nm).length + ws.length + d.length + 2 /\ NameOk nm /\ (∀ b ∈ ws, isWs b = true) /\ (d = [] \/ ws ≠ []) /\ (∀ c t, d = c :: t -> isWs c = false) /\ pathPI 0 (d ++ [63, 62]) /\ SQ P s base w' a' q' vd (gs ++ [⟨5, ⟨#[]⟩, nameB nm, [], ⟨d.toArray⟩, (a' : Nat)⟩]) opn bnd /\ GoP P q w q' w'))
structure PreP (s : ByteArray) (a F : Nat) (x : ByteArray) (b : Bool) : Prop where
 ex : ∃ nm ws, NameOk nm /\ x = nameB nm /\ s.data.toList.drop a = nb nm ++ (ws ++ s.data.toList.drop F) /\ F = a + (nb nm).length + ws.length /\ F <= s.size /\ (∀ c ∈ ws, isWs c = true) /\ b = !ws.isEmpty /\ ∀ c t, s.data.toList.drop F = c :: t -> isWs c = false
theorem instruction_do (P : Nat) (s : ByteArray) (base : Nat) (w : World) (a : Nat) (q : PV) (vd : Int) (gs : List GT) (opn : List ByteArray) (bnd : List (List (ByteArray × ByteArray))) (h : SQ P s base w a q vd gs opn bnd) (hz : s.size <= 1000000) (hn : gs.length <= 1000000) (hbase : base <= w.heap.size) (haz : a <= s.size) :
  Calls Tryz.prog 78 #[.pointer (some ⟨P, 0, none⟩)] w (PiP P s base a q vd gs opn bnd w) := by
 obtain ⟨c0, c1, _⟩ := h.blk.c
 have hst : SP P s q vd w a w := SP.start h.blk
 have hw : Calls Tryz.prog 133 #[.pointer (some ⟨P, 0, none⟩)] w fun e w' => ∃ x : ByteArray, e = .returned (.string x) /\ Hid (x.size <= 1000000 /\ ∃ rest, s.data.toList.drop a = x.data.toList ++ rest /\ SP P s q vd w (a + x.size) w') := by
  refine (hst.word hz haz).mono ?_
  rintro e w' ⟨x, rfl, rest, h1, h2⟩
  have := at_le h1 haz
  rw [<- Lib.size_eq] at this
  exact ⟨x, rfl, by omega, rest, h1, h2⟩
 have hnk : ∀ (x : ByteArray) (w1 : World), (x.size <= 1000000 /\ ∃ rest, s.data.toList.drop a = x.data.toList ++ rest /\ SP P s q vd w (a + x.size) w1) -> Calls Tryz.prog 47 #[.string x] w1 fun e w' => ∃ k : Nat, e = .returned (.int .i64 k) /\ Hid (x.size <= 1000000 /\ ∃ rest, s.data.toList.drop a = x.data.toList ++ rest /\ SP P s q vd w (a + x.size) w') := fun x w1 k => by
  obtain ⟨k0, rest, k1, k2⟩ := k
  refine (nameKind_do x w1 k0).mono ?_
  rintro e w' ⟨k, rfl, h1, _⟩
  exact ⟨k, rfl, k0, rest, k1, k2.drw h1⟩
 have hin : ∀ (x : ByteArray) (w1 : World), (x.size <= 1000000 /\ ∃ rest, s.data.toList.drop a = x.data.toList ++ rest /\ SP P s q vd w (a + x.size) w1) -> Calls Tryz.prog 26 #[.string x] w1 fun e w' => ∃ b : Bool, e = .returned (.bool b) /\ Hid ((b = true -> ∃ nm, NameOk nm /\ x.data.toList = nb nm) /\ x.size <= 1000000 /\ ∃ rest, s.data.toList.drop a = x.data.toList ++ rest /\ SP P s q vd w (a + x.size) w') := fun x w1 k => by
  obtain ⟨k0, rest, k1, k2⟩ := k
  refine (isNameS_do x w1 k0).mono ?_
  rintro e w' ⟨b, rfl, h1, h2⟩
  exact ⟨b, rfl, h2, k0, rest, k1, k2.drw h1⟩
 have hbl : ∀ (x : ByteArray) (b0 : Bool) (w1 : World), b0 = true -> ((b0 = true -> ∃ nm, NameOk nm /\ x.data.toList = nb nm) /\ x.size <= 1000000 /\ ∃ rest, s.data.toList.drop a = x.data.toList ++ rest /\ SP P s q vd w (a + x.size) w1) -> Calls Tryz.prog 131 #[.pointer (some ⟨P, 0, none⟩)] w1 fun e w' => ∃ (b : Bool) (F : Nat), e = .returned (.bool b) /\ SPc P s F w' /\ Hid (PreP s a F x b /\ SP P s q vd w F w') := fun x b0 w1 hb0 k => by
  obtain ⟨k3, k0, rest, k1, k2⟩ := k
  obtain ⟨nm, h1, h2⟩ := k3 hb0
  have hle := at_le k1 haz
  have hx : x.size = (nb nm).length := by rw [Lib.size_eq, h2]
  rw [<- Lib.size_eq] at hle
  refine (k2.blanks hz (by omega)).mono ?_
  rintro e w' ⟨b, rfl, ws, rest', e1, e2, e3, e4, e5⟩
  have hle2 := at_le e2 (by omega)
  have hgo := at_go e2
  refine ⟨b, a + x.size + ws.length, rfl, e5.c, ⟨⟨nm, ws, h1, bytes_eq h2, ?_, by omega, by omega, e3, e1, ?_⟩, e5⟩⟩
  ·rw [hgo, k1, h2]
   have hg := at_go k1
   rw [<- Lib.size_eq] at hg
   rw [<- e2, hg]
  ·rw [hgo]; exact e4
 have hf : ∀ (x : ByteArray) (v : Int) (w1 : World), v ≠ 0 -> (x.size <= 1000000 /\ ∃ rest, s.data.toList.drop a = x.data.toList ++ rest /\ SP P s q vd w (a + x.size) w1) -> Calls Tryz.prog 82 #[.pointer (some ⟨P, 0, none⟩), .int .i64 v] w1 fun e w' => e = .returned (.bool false) /\ Hid (FailP P s q w w') := fun x v w1 hv k => by
  obtain ⟨k0, rest, k1, k2⟩ := k
  have := at_le k1 haz
  rw [<- Lib.size_eq] at this
  exact k2.fail v hv (by omega)
 replace h := zz h
 replace hn := zz hn
 replace hbase := zz hbase
 replace hw := zz hw
 replace hnk := zz hnk
 replace hin := zz hin
 replace hbl := zz hbl
 replace hf := zz hf
 replace hst := zz hst
 go_enter Tryz.func78, Tryz.ntmps78
 go_wp2_with (first
  | (go_at_call 131; refine (hbl.out x b0 _ (by simpa using ‹(!b0) = false›) k3.out).mono ?_; rintro e w4 ⟨b, F, rfl, ⟨d0, d1, df⟩, k4⟩)
  | (go_at_call 82; refine (hf.out x _ _ (by decide) k3.out.2).mono ?_; rintro e w4 ⟨rfl, k4⟩)
  | (go_at_call 82; refine (hf.out x _ _ (by decide) k2.out).mono ?_; rintro e w4 ⟨rfl, k4⟩)
  | (go_at_call 26; refine (hin.out x _ k2.out).mono ?_; rintro e w3 ⟨b0, rfl, k3⟩)
  | (go_at_call 47; refine (hnk.out x _ k1.out).mono ?_; rintro e w2 ⟨k, rfl, k2⟩)
  | (go_at_call 133; refine hw.out.mono ?_; rintro e w1 ⟨x, rfl, k1⟩))
 ·go_ret
  exact ⟨⟨false, rfl, .inl ⟨rfl, k4.out⟩⟩⟩
 ·go_ret
  exact ⟨⟨false, rfl, .inl ⟨rfl, k4.out⟩⟩⟩
 obtain ⟨wF, hwF⟩ : ∃ wF, wF = w4 := ⟨_, rfl⟩
 obtain ⟨hpre, hS0⟩ := k4.out
 have hF := hpre.ex
 obtain ⟨nm, ws, p1, p2, p3, p4, p5, p6, p7, p8⟩ := hF
 have hdec : ∀ (y : ByteArray) (b : Nat) (w1 : World), SP P s q vd w b w1 -> Calls Tryz.prog 134 #[.string y] w1 fun e w' => ∃ b' : Bool, e = .returned (.bool b') /\ Hid (SP P s q vd w b w') := fun y b w1 k => by
  refine (declaration_do y w1).mono ?_
  rintro e w' ⟨b', rfl, x⟩
  exact ⟨b', rfl, k.old x⟩
 have hrs : ∀ (b : Nat) (w1 : World), SP P s q vd w b w1 -> Calls Tryz.prog 27 #[.string x] w1 fun e w' => ∃ b' : Bool, e = .returned (.bool b') /\ Hid (SP P s q vd w b w') := fun b w1 k => by
  refine (reserved_do x w1).mono ?_
  rintro e w' ⟨rfl, x⟩
  exact ⟨_, rfl, by rw [x]; exact k⟩
 have hbw : b = true \/ ws = [] := by
  rw [p7]; cases ws with
  | nil => exact .inr rfl
  | cons y z => exact .inl rfl
 have hspc : ws = [] -> b = false := fun e => by rw [p7, e]; rfl
 replace hdec := zz hdec
 replace hrs := zz hrs
 replace p1 := zz p1
 replace p2 := zz p2
 replace p3 := zz p3
 replace p4 := zz p4
 replace p6 := zz p6
 replace p7 := zz p7
 replace p8 := zz p8
 replace hspc := zz hspc
 replace hwF := zz hwF
 clear k1 k2 k3 k4 hw hnk hin hbl hf d0 d1 df hpre c0 c1 hbw
 replace hS0 := zz hS0
 go_loopg [33] (s.size - F) (fun k u33 wr => ∃ ds rest, s.data.toList.drop F = ds ++ rest /\ rest.length = k /\ UpTo [63, 62] ds rest /\ SP P s q vd w (F + ds.length) wr)
 case atStart => exact ⟨[], s.data.toList.drop F, rfl, by rw [List.length_drop, <- Lib.size_eq], fun j hj => absurd hj (Nat.not_lt_zero _), hS0.out⟩
 case round =>
  obtain ⟨ds, rest, hL, hk, hT, hB⟩ := hrel
  have hsz := at_le hL p5
  have hgo := at_go hL
  obtain ⟨A, hA⟩ : ∃ A, A = F + ds.length := ⟨_, rfl⟩
  rw [<- hA] at hB hsz hgo
  have hAs : A <= s.size := by omega
  rcases lit_or [63, 62] rest with ⟨t', rfl⟩ | hno
  ·have hh := hB.hasY hz hAs [63, 62] t' hgo (by decide)
   have hA2 : A + 2 <= s.size := by simp at hsz; omega
   have i1 : IntKind.i64.wrap (((A + 2 : Nat) : Int) - 2) = (A : Int) := by rw [IntWalk.i64_in _ (by omega)]; omega
   obtain ⟨B, hB2⟩ : ∃ B, B = A + 2 := ⟨_, rfl⟩
   have hh' : Calls Tryz.prog 76 #[.pointer (some ⟨P, 0, none⟩), .string ⟨#[63, 62]⟩] wr fun e w' => e = .returned (.bool true) /\ SPc P s B w' /\ Hid (SP P s q vd w B w') := by rw [hB2]; exact hh
   rw [<- hB2] at hA2 i1
   have i2 : (0 : Int) <= (F : Int) := by omega
   have i3 : (F : Int) <= (A : Int) := by omega
   have i4 : (A : Int) <= (s.size : Int) := by omega
   have hX : (s.extract F A).data.toList = ds := by
    rw [ext_sub, hA, List.take_add, List.drop_append_of_le_length (by simp; omega), List.drop_take_self, List.nil_append, hL, List.take_left]
   generalize hXe : s.extract F A = X at *
   have hXl : X.size <= 1000000 := by rw [Lib.size_eq, hX]; omega
   have hfl : ∀ (w1 : World), SP P s q vd w B w1 -> Calls Tryz.prog 82 #[.pointer (some ⟨P, 0, none⟩), .int .i64 2] w1 fun e w' => e = .returned (.bool false) /\ Hid (FailP P s q w w') := fun w1 k => k.fail 2 (by decide) hA2
   have hv : ∀ (w1 : World), SP P s q vd w B w1 -> Calls Tryz.prog 24 #[.string X] w1 fun e w' => ∃ b : Bool, e = .returned (.bool b) /\ Hid (SP P s q vd w B w') := fun w1 k => by
    refine (verbatim_do X w1 hXl).mono ?_
    rintro e w' ⟨b, rfl, x⟩
    exact ⟨b, rfl, k.drw x⟩
   have hXd : X = ⟨ds.toArray⟩ := bytes_eq (by rw [hX])
   have hfin : (ds = [] \/ ws ≠ []) -> ∀ w1, SP P s q vd w B w1 -> Calls Tryz.prog 129 #[.pointer (some ⟨P, 0, none⟩), .agg #[.int .i64 5, .string ⟨#[]⟩, .string x, .slice none 0 0, .string X, .int .i64 0]] w1 fun e w' => e = .returned (.bool true) /\ Hid (PiP P s base a q vd gs opn bnd w (.returned (.bool true)) w') := fun hds w1 k => by
    refine (add_sp h.out k hn.out hbase.out 5 ⟨#[]⟩ x X 0).mono ?_
    rintro e w' ⟨rfl, q', h1, h2⟩
    have el : B = a + (nb nm).length + ws.length + ds.length + 2 := by have := p4.out; omega
    refine ⟨rfl, ⟨true, rfl, .inr ⟨rfl, q', nm, ws, ds, t', B, ?_, el, p1.out, p6.out, hds, ?_, UpTo.pathPI 0 hT (fun e => absurd e (by decide)), ?_, h2⟩⟩⟩
    ·rw [p3.out, hL]; rfl
    ·rintro c t rfl
     exact p8.out c (t ++ _) hL
    ·rw [<- p2.out, <- hXd]; exact h1
   have hcases : (X.toList.isEmpty = true /\ ds = []) \/ (X.toList.isEmpty = false /\ b = true /\ ws ≠ []) \/ (X.toList.isEmpty = false /\ b = false) := by
    by_cases hd : ds = []
    ·refine .inl ⟨toList_nil (by rw [Lib.size_eq, hX, hd]; rfl), hd⟩
    ·have he : X.toList.isEmpty = false := toList_ne (by rw [Lib.size_eq, hX]; exact List.length_pos_iff.2 hd)
     cases hb : b
     ·exact .inr (.inr ⟨he, rfl⟩)
     ·exact .inr (.inl ⟨he, rfl, fun e => by rw [hspc.out e] at hb; cases hb⟩)
   replace hfl := zz hfl
   replace hv := zz hv
   replace hh' := zz hh'
   replace hXe := zz hXe
   clear hX hXl hT hA hL hsz hgo hk hB hB2 hh hA2 hAs hXd p1 p2 p3 p4 p5 p6 p7 p8 hspc hS0
   rcases hcases with ⟨he, hds⟩ | ⟨he, rfl, hws⟩ | ⟨he, rfl⟩
   ·have hfin := hfin (.inl hds)
    replace hfin := zz hfin
    replace hds := zz hds
    go_wp2_with (go_at_call 76; refine hh'.out.mono ?_; rintro e w1 ⟨rfl, ⟨c0, c1, cf⟩, k1⟩)
    go_quiet (fail)
    rw [hXe.out]
    go_wp2_with (first
     | (go_at_call 129; refine (hfin.out _ (by first | exact k4.out | exact k3.out)).mono ?_; rintro e w5 ⟨rfl, k5⟩)
     | (go_at_call 82; refine (hfl.out _ (by first | exact k4.out | exact k3.out | exact k2.out)).mono ?_; rintro e w5 ⟨rfl, k6⟩)
     | (go_at_call 134; refine (hdec.out X _ _ k3.out).mono ?_; rintro e w4 ⟨b4, rfl, k4⟩)
     | (go_at_call 27; refine (hrs.out _ _ k2.out).mono ?_; rintro e w3 ⟨b3, rfl, k3⟩)
     | (go_at_call 24; refine (hv.out _ (k1.out.drewN _)).mono ?_; rintro e w2 ⟨b2, rfl, k2⟩))
    all_goals first
     | (go_ret; exact k5.out)
     | (go_ret; exact ⟨⟨false, rfl, .inl ⟨rfl, k6.out⟩⟩⟩)
   ·have hfin := hfin (.inr hws)
    replace hfin := zz hfin
    replace hws := zz hws
    go_wp2_with (go_at_call 76; refine hh'.out.mono ?_; rintro e w1 ⟨rfl, ⟨c0, c1, cf⟩, k1⟩)
    go_quiet (fail)
    rw [hXe.out]
    go_wp2_with (first
     | (go_at_call 129; refine (hfin.out _ (by first | exact k4.out | exact k3.out)).mono ?_; rintro e w5 ⟨rfl, k5⟩)
     | (go_at_call 82; refine (hfl.out _ (by first | exact k4.out | exact k3.out | exact k2.out)).mono ?_; rintro e w5 ⟨rfl, k6⟩)
     | (go_at_call 134; refine (hdec.out X _ _ k3.out).mono ?_; rintro e w4 ⟨b4, rfl, k4⟩)
     | (go_at_call 27; refine (hrs.out _ _ k2.out).mono ?_; rintro e w3 ⟨b3, rfl, k3⟩)
     | (go_at_call 24; refine (hv.out _ (k1.out.drewN _)).mono ?_; rintro e w2 ⟨b2, rfl, k2⟩))
    all_goals first
     | (go_ret; exact k5.out)
     | (go_ret; exact ⟨⟨false, rfl, .inl ⟨rfl, k6.out⟩⟩⟩)
   ·clear hfin
    go_wp2_with (go_at_call 76; refine hh'.out.mono ?_; rintro e w1 ⟨rfl, ⟨c0, c1, cf⟩, k1⟩)
    go_quiet (fail)
    rw [hXe.out]
    go_wp2_with (first
     | (go_at_call 82; refine (hfl.out _ (by first | exact k4.out | exact k3.out | exact k2.out)).mono ?_; rintro e w5 ⟨rfl, k6⟩)
     | (go_at_call 134; refine (hdec.out X _ _ k3.out).mono ?_; rintro e w4 ⟨b4, rfl, k4⟩)
     | (go_at_call 27; refine (hrs.out _ _ k2.out).mono ?_; rintro e w3 ⟨b3, rfl, k3⟩)
     | (go_at_call 24; refine (hv.out _ (k1.out.drewN _)).mono ?_; rintro e w2 ⟨b2, rfl, k2⟩))
    all_goals first
     | (go_ret; exact ⟨⟨false, rfl, .inl ⟨rfl, k6.out⟩⟩⟩)
  ·have hh1 := hB.hasN hz hAs [63, 62] (by rw [hgo]; exact take_ne hno) (by decide)
   replace hh1 := zz hh1
   have hf82 := fun (w1 : World) (k : SP P s q vd w A w1) => k.fail 1 (by decide) hAs
   replace hf82 := zz hf82
   clear p1 p2 p3 p4 p6 p7 p8 hspc hS0 hdec hrs
   rcases rest with _ | ⟨c, t⟩
   ·have he := fun (w1 : World) (k : SP P s q vd w A w1) => (k.endY (by simp at hsz; omega)).mono (R' := fun e w' => e = .returned (.bool true) /\ Hid (SP P s q vd w A w')) (fun e w' x => ⟨x.1, k.drw x.2⟩)
    replace he := zz he
    clear hsz hgo hk hno hB hT hL hA
    go_wp2_with (first
     | (go_at_call 82; refine (hf82.out _ k2.out).mono ?_; rintro e w3 ⟨rfl, k3⟩)
     | (go_at_call 42; refine (he.out _ k1.out).mono ?_; rintro e w2 ⟨rfl, k2⟩)
     | (go_at_call 76; refine hh1.out.mono ?_; rintro e w1 ⟨rfl, _, k1⟩))
    go_ret
    exact ⟨⟨false, rfl, .inl ⟨rfl, k3.out⟩⟩⟩
   ·have h1 : A < s.size := by simp at hsz; omega
    have he := fun (w1 : World) (k : SP P s q vd w A w1) => (k.endN h1).mono (R' := fun e w' => e = .returned (.bool false) /\ SPc P s A w' /\ Hid (SP P s q vd w A w')) (fun e w' x => ⟨x.1, (k.drw x.2).c, k.drw x.2⟩)
    have i2 : IntKind.i64.wrap ((A : Int) + 1) = ((A + 1 : Nat) : Int) := by rw [IntWalk.i64_in _ (by omega)]; omega
    have hfin : ∀ w1, SP P s q vd w A w1 -> ∃ ds rest, rest.length < gk /\ s.data.toList.drop F = ds ++ rest /\ UpTo [63, 62] ds rest /\ SP P s q vd w (F + ds.length) (w1.setCell ⟨P, 1, none⟩ (.int .i64 (A + 1 : Nat))) := fun w1 k => by
     refine ⟨ds ++ [c], t, ?_, by rw [hL]; simp, hT.snoc hno, ?_⟩
     ·simp at hk; omega
     ·have e : F + (ds ++ [c]).length = A + 1 := by rw [hA]; simp; omega
      rw [e]; exact k.set1 (A + 1)
    replace he := zz he
    replace hfin := zz hfin
    clear hsz hgo hk hno hB hT hL hA hf82 h1
    go_wp2_with (first
     | (go_at_call 42; refine (he.out _ k1.out).mono ?_; rintro e w2 ⟨rfl, ⟨c0, c1, cf⟩, k2⟩)
     | (go_at_call 76; refine hh1.out.mono ?_; rintro e w1 ⟨rfl, _, k1⟩))
    obtain ⟨ds', rest', y1, y2, y3, y4⟩ := hfin.out _ k2.out
    go_roundg rest'.length
    case measure => exact y1
    case rel => exact ⟨ds', rest', y2, rfl, y3, y4⟩
end
section
open Go.RowKit
structure DocP (P : Nat) (s : ByteArray) (base a : Nat) (q : PV) (vd : Int) (gs : List GT) (opn : List ByteArray) (bnd : List (List (ByteArray × ByteArray))) (w : World) (e : Ending) (w' : World) : Prop where
 ex : ∃ ok : Bool, e = .returned (.bool ok) /\ ((ok = false /\ FailP P s q w w') \/ (ok = true /\ ∃ q' x a', a < a' /\ a' <= s.size /\ SQ P s base w' a' q' vd (gs ++ [⟨6, ⟨#[]⟩, ⟨#[]⟩, [], x, (a' : Nat)⟩]) opn bnd /\ GoP P q w q' w'))
def AtQ2 (P : Nat) (s : ByteArray) (a : Nat) (q : PV) (vd : Int) (w : World) (w1 : World) : Prop := ∃ A, a <= A /\ A <= s.size /\ SP P s q vd w A w1
theorem AtQ2.fail {P : Nat} {s : ByteArray} {a : Nat} {q : PV} {vd : Int} {w w1 : World} (h : AtQ2 P s a q vd w w1) (v : Int) (hv : v ≠ 0) : Calls Tryz.prog 82 #[.pointer (some ⟨P, 0, none⟩), .int .i64 v] w1 fun e w' => e = .returned (.bool false) /\ Hid (FailP P s q w w') := by
 obtain ⟨A, h1, h2, k⟩ := h
 exact k.fail v hv h2
theorem doctype_do (P : Nat) (s : ByteArray) (base : Nat) (w : World) (a : Nat) (q : PV) (vd : Int) (gs : List GT) (opn : List ByteArray) (bnd : List (List (ByteArray × ByteArray))) (h : SQ P s base w a q vd gs opn bnd) (hz : s.size <= 1000000) (hn : gs.length <= 1000000) (hbase : base <= w.heap.size) (haz : a <= s.size) :
  Calls Tryz.prog 81 #[.pointer (some ⟨P, 0, none⟩)] w (DocP P s base a q vd gs opn bnd w) := by
 obtain ⟨c0, c1, _⟩ := h.blk.c
 have hst : SP P s q vd w a w := SP.start h.blk
 have hbl : Calls Tryz.prog 131 #[.pointer (some ⟨P, 0, none⟩)] w fun e w' => ∃ b : Bool, e = .returned (.bool b) /\ Hid (AtQ2 P s a q vd w w') := by
  refine (hst.blanks hz haz).mono ?_
  rintro e w' ⟨b, rfl, ws, rest', e1, e2, e3, e4, e5⟩
  have hle2 := at_le e2 haz
  exact ⟨b, rfl, _, by omega, by omega, e5⟩
 have hw : ∀ w1, AtQ2 P s a q vd w w1 -> Calls Tryz.prog 133 #[.pointer (some ⟨P, 0, none⟩)] w1 fun e w' => ∃ x : ByteArray, e = .returned (.string x) /\ Hid (x.size <= 1000000 /\ AtQ2 P s a q vd w w') := fun w1 k => by
  obtain ⟨A, a1, a2, k⟩ := k
  refine (k.word hz a2).mono ?_
  rintro e w' ⟨x, rfl, rest, h1, h2⟩
  have := at_le h1 a2
  rw [<- Lib.size_eq] at this
  exact ⟨x, rfl, by omega, _, by omega, by omega, h2⟩
 have hin : ∀ (x : ByteArray) (w1 : World), (x.size <= 1000000 /\ AtQ2 P s a q vd w w1) -> Calls Tryz.prog 26 #[.string x] w1 fun e w' => ∃ b : Bool, e = .returned (.bool b) /\ Hid (AtQ2 P s a q vd w w') := fun x w1 k => by
  obtain ⟨k0, A, a1, a2, k⟩ := k
  refine (isNameS_do x w1 k0).mono ?_
  rintro e w' ⟨b, rfl, h1, h2⟩
  exact ⟨b, rfl, A, a1, a2, k.drw h1⟩
 have hf : ∀ (v : Int) (w1 : World), v ≠ 0 -> AtQ2 P s a q vd w w1 -> Calls Tryz.prog 82 #[.pointer (some ⟨P, 0, none⟩), .int .i64 v] w1 fun e w' => e = .returned (.bool false) /\ Hid (FailP P s q w w') := fun v w1 hv k => k.fail v hv
 replace h := zz h
 replace hn := zz hn
 replace hbase := zz hbase
 replace hw := zz hw
 replace hin := zz hin
 replace hbl := zz hbl
 replace hf := zz hf
 replace hst := zz hst
 go_enter Tryz.func81, Tryz.ntmps81
 go_wp2_with (first
  | (go_at_call 82; refine (hf.out _ _ (by decide) (by first | exact k3.out | exact k1.out)).mono ?_; rintro e w4 ⟨rfl, k4⟩)
  | (go_at_call 26; refine (hin.out x _ k2.out).mono ?_; rintro e w3 ⟨b0, rfl, k3⟩)
  | (go_at_call 133; refine (hw.out _ k1.out).mono ?_; rintro e w2 ⟨x, rfl, k2⟩)
  | (go_at_call 131; refine hbl.out.mono ?_; rintro e w1 ⟨b, rfl, k1⟩))
 all_goals first
  | (go_ret; exact ⟨⟨false, rfl, .inl ⟨rfl, k4.out⟩⟩⟩)
  | skip
 obtain rfl : b0 = true := by simpa using ‹(!b0) = false›
 obtain ⟨F, f1, f2, hS0⟩ := k3.out
 clear k1 k2 k3 hw hin hbl hf c0 c1
 replace hS0 := zz hS0
 go_loopg [20] (s.size - F) (fun k u20 wr => ∃ A, k + A = s.size /\ F <= A /\ SP P s q vd w A wr)
 case atStart => exact ⟨F, by omega, by omega, hS0.out⟩
 case round =>
  obtain ⟨A, hk, hFA, hB⟩ := hrel
  have hAs : A <= s.size := by omega
  obtain ⟨rest, hgo⟩ : ∃ rest, s.data.toList.drop A = rest := ⟨_, rfl⟩
  have hsz := at_le (l := []) hgo hAs
  rcases lit_or [62] rest with ⟨t', rfl⟩ | hno
  ·have hh := hB.hasY hz hAs [62] t' hgo (by decide)
   have hA2 : A + 1 <= s.size := by simp at hsz; omega
   have i1 : IntKind.i64.wrap (((A + 1 : Nat) : Int) - 1) = (A : Int) := by rw [IntWalk.i64_in _ (by omega)]; omega
   obtain ⟨B, hB2⟩ : ∃ B, B = A + 1 := ⟨_, rfl⟩
   have hh' : Calls Tryz.prog 76 #[.pointer (some ⟨P, 0, none⟩), .string ⟨#[62]⟩] wr fun e w' => e = .returned (.bool true) /\ SPc P s B w' /\ Hid (SP P s q vd w B w') := by rw [hB2]; exact hh
   rw [<- hB2] at hA2 i1
   have i2 : (0 : Int) <= (a : Int) := by omega
   have i3 : (a : Int) <= (A : Int) := by omega
   have i4 : (A : Int) <= (s.size : Int) := by omega
   have hX : (s.extract a A).size <= 1000000 := by rw [Lib.size_eq, ext_sub, List.length_drop, List.length_take]; omega
   generalize hXe : s.extract a A = X at *
   have hfl : ∀ (w1 : World), SP P s q vd w B w1 -> Calls Tryz.prog 82 #[.pointer (some ⟨P, 0, none⟩), .int .i64 2] w1 fun e w' => e = .returned (.bool false) /\ Hid (FailP P s q w w') := fun w1 k => k.fail 2 (by decide) hA2
   have hv : ∀ (w1 : World), SP P s q vd w B w1 -> Calls Tryz.prog 24 #[.string X] w1 fun e w' => ∃ b : Bool, e = .returned (.bool b) /\ Hid (SP P s q vd w B w') := fun w1 k => by
    refine (verbatim_do X w1 hX).mono ?_
    rintro e w' ⟨b, rfl, x⟩
    exact ⟨b, rfl, k.drw x⟩
   have hadd : ∀ w1, (Op.stringOp .add ⟨#[68, 79, 67, 84, 89, 80, 69]⟩ X).run Tryz.prog w1 = .ok (.string (⟨#[68, 79, 67, 84, 89, 80, 69]⟩ ++ X)) w1 := fun w1 => run_string_add_sum w1 _ _ (by have : (ByteArray.mk #[68, 79, 67, 84, 89, 80, 69]).size = 7 := rfl; omega)
   obtain ⟨Y, hY⟩ : ∃ Y, Y = (⟨#[68, 79, 67, 84, 89, 80, 69]⟩ : ByteArray) ++ X := ⟨_, rfl⟩
   rw [<- hY] at hadd
   have hfin : ∀ w1, SP P s q vd w B w1 -> Calls Tryz.prog 129 #[.pointer (some ⟨P, 0, none⟩), .agg #[.int .i64 6, .string ⟨#[]⟩, .string ⟨#[]⟩, .slice none 0 0, .string Y, .int .i64 0]] w1 fun e w' => e = .returned (.bool true) /\ Hid (DocP P s base a q vd gs opn bnd w (.returned (.bool true)) w') := fun w1 k => by
    refine (add_sp h.out k hn.out hbase.out 6 ⟨#[]⟩ ⟨#[]⟩ Y 0).mono ?_
    rintro e w' ⟨rfl, q', h1, h2⟩
    exact ⟨rfl, ⟨true, rfl, .inr ⟨rfl, q', Y, B, by omega, hA2, h1, h2⟩⟩⟩
   replace hfl := zz hfl
   replace hv := zz hv
   replace hfin := zz hfin
   replace hh' := zz hh'
   replace hXe := zz hXe
   replace hY := zz hY
   clear hX hsz hgo hk hB hB2 hh hA2 hAs hS0 f1 f2 hFA
   go_wp2_with (go_at_call 76; refine hh'.out.mono ?_; rintro e w1 ⟨rfl, ⟨c0, c1, cf⟩, k1⟩)
   go_quiet (fail)
   rw [hXe.out]
   go_wp2_with (first
    | (go_at_call 129; refine (hfin.out _ k2.out).mono ?_; rintro e w5 ⟨rfl, k5⟩)
    | (go_at_call 82; refine (hfl.out _ k2.out).mono ?_; rintro e w5 ⟨rfl, k6⟩)
    | (go_at_call 24; refine (hv.out _ (k1.out.drewN _)).mono ?_; rintro e w2 ⟨b2, rfl, k2⟩))
   all_goals first
    | (go_ret; exact k5.out)
    | (go_ret; exact ⟨⟨false, rfl, .inl ⟨rfl, k6.out⟩⟩⟩)
  ·have hh1 := hB.hasN hz hAs [62] (by rw [hgo]; exact take_ne hno) (by decide)
   have hf82 := fun (w1 : World) (k : SP P s q vd w A w1) => k.fail 2 (by decide) hAs
   replace hf82 := zz hf82
   replace hh1 := zz hh1
   rcases rest with _ | ⟨c, t⟩
   ·have he := fun (w1 : World) (k : SP P s q vd w A w1) => quietly (fun n => (k.drewN n).endY (by simp at hsz; omega))
    replace he := zz he
    clear hsz hgo hk hno hB hS0 f1 f2 hFA
    go_wp2_with (go_at_call 76; refine hh1.out.mono ?_; rintro e w1 ⟨rfl, ⟨c0, c1, cf⟩, k1⟩)
    go_quiet (first | (go_at_call 42; exact he.out _ k1.out _))
    go_wp2_with (go_at_call 82; refine (hf82.out _ (k1.out.drewN _)).mono ?_; rintro e w3 ⟨rfl, k3⟩)
    go_ret
    exact ⟨⟨false, rfl, .inl ⟨rfl, k3.out⟩⟩⟩
   ·obtain ⟨h1, h2, h3⟩ := at_byte hgo
    have he := fun (w1 : World) (k : SP P s q vd w A w1) => quietly (fun n => (k.drewN n).endN h1)
    have i1 : (A : Int) < (s.size : Int) := by omega
    have i2 : IntKind.i64.wrap ((A : Int) + 1) = ((A + 1 : Nat) : Int) := by rw [IntWalk.i64_in _ (by omega)]; omega
    have hfin : ∀ w1, SP P s q vd w A w1 -> ∃ A', s.size - A' < gk /\ A' <= s.size /\ F <= A' /\ SP P s q vd w A' (w1.setCell ⟨P, 1, none⟩ (.int .i64 (A + 1 : Nat))) := fun w1 k => ⟨A + 1, by omega, by omega, by omega, k.set1 (A + 1)⟩
    obtain ⟨n, hn⟩ : ∃ n, n = c.toNat := ⟨_, rfl⟩
    rw [<- hn] at h2
    have hcs : ((n : Int) == 60) = true \/ (((n : Int) == 60) = false /\ ((n : Int) == 91) = true) \/ (((n : Int) == 60) = false /\ ((n : Int) == 91) = false /\ ((n : Int) == 34) = true) \/ (((n : Int) == 60) = false /\ ((n : Int) == 91) = false /\ ((n : Int) == 34) = false /\ ((n : Int) == 39) = true) \/ (((n : Int) == 60) = false /\ ((n : Int) == 91) = false /\ ((n : Int) == 34) = false /\ ((n : Int) == 39) = false) := by
     cases ((n : Int) == 60) <;> cases ((n : Int) == 91) <;> cases ((n : Int) == 34) <;> cases ((n : Int) == 39) <;> simp
    replace he := zz he
    replace hfin := zz hfin
    replace hn := zz hn
    clear hsz hgo hk hno hB h1 h3 hS0 f1 f2 hFA
    rcases hcs with e1 | ⟨e1, e2⟩ | ⟨e1, e2, e3⟩ | ⟨e1, e2, e3, e4⟩ | ⟨e1, e2, e3, e4⟩
    all_goals (
     go_wp2_with (go_at_call 76; refine hh1.out.mono ?_; rintro e w1 ⟨rfl, ⟨c0, c1, cf⟩, k1⟩)
     go_quiet (first | (go_at_call 42; exact he.out _ k1.out _))
     go_wp2_with (go_at_call 82; refine (hf82.out _ (k1.out.drewN _)).mono ?_; rintro e w3 ⟨rfl, k3⟩))
    all_goals first
     | (go_ret
        exact ⟨⟨false, rfl, .inl ⟨rfl, k3.out⟩⟩⟩)
     | skip
    obtain ⟨A', y1, y2, y3, y4⟩ := hfin.out _ (k1.out.drewN _)
    go_roundg (s.size - A')
    case measure => exact y1
    case rel => exact ⟨A', by omega, y3, y4⟩
theorem begun_do {P : Nat} {s : ByteArray} {a : Nat} {q : PV} {vd : Int} {w w1 : World} (h : SP P s q vd w a w1) (hz : s.size <= 1000000) : Calls Tryz.prog 83 #[.pointer (some ⟨P, 0, none⟩), .string ⟨#[45, 45]⟩, .string ⟨#[91, 67, 68, 65, 84, 65, 91]⟩] w1 fun e w' => ∃ v : Int, e = .returned (.int .i64 v) /\ Hid (v ≠ 0 /\ SP P s q vd w a w') := by
 obtain ⟨c0, c1, cf⟩ := h.c
 by_cases ha : s.size <= a
 ·have he := quietly (fun n => (h.drewN n).endY ha)
  replace he := zz he
  replace h := zz h
  go_enter Tryz.func83, Tryz.ntmps83
  go_wp2
  go_quiet (first | (go_at_call 42; exact he.out _))
  go_wp2
  go_ret
  exact ⟨_, rfl, by decide, h.out.drewN _⟩
 ·have h1 : a < s.size := by omega
  have he := quietly (fun n => (h.drewN n).endN h1)
  have i1 : (a : Int) < (s.size : Int) := by omega
  obtain ⟨C1, hC1⟩ : ∃ C1 : ByteArray, C1 = ⟨#[45, 45]⟩ := ⟨_, rfl⟩
  obtain ⟨C2, hC2⟩ : ∃ C2 : ByteArray, C2 = ⟨#[91, 67, 68, 65, 84, 65, 91]⟩ := ⟨_, rfl⟩
  rw [<- hC1, <- hC2]
  have z1 : ∀ h : 0 < C1.size, (C1[0]'h).toNat = 45 := by subst hC1; intro _; rfl
  have z2 : ∀ h : 0 < C2.size, (C2[0]'h).toNat = 91 := by subst hC2; intro _; rfl
  have z3 : (0 : Int) < (C1.size : Int) := by subst hC1; decide
  have z4 : (0 : Int) < (C2.size : Int) := by subst hC2; decide
  have z5 : 0 < C1.size := by subst hC1; decide
  have z6 : 0 < C2.size := by subst hC2; decide
  replace hC1 := zz hC1
  replace hC2 := zz hC2
  obtain ⟨n, hn⟩ : ∃ n : Nat, ∀ h : a < s.size, (s[a]'h).toNat = n := ⟨(s[a]'h1).toNat, fun _ => rfl⟩
  have hcs : ((n : Int) == 45) = true \/ (((n : Int) == 45) = false /\ ((n : Int) == 91) = true) \/ (((n : Int) == 45) = false /\ ((n : Int) == 91) = false) := by
   cases ((n : Int) == 45) <;> cases ((n : Int) == 91) <;> simp
  replace he := zz he
  replace h := zz h
  go_enter Tryz.func83, Tryz.ntmps83
  rcases hcs with e1 | ⟨e1, e2⟩ | ⟨e1, e2⟩
  all_goals (
   go_wp2
   go_quiet (first | (go_at_call 42; exact he.out _))
   go_wp2
   go_ret
   exact ⟨_, rfl, by decide, h.out.drewN _⟩)
end
end Go.Proofs.YtepbbahdhhjibaaGreatDoor
