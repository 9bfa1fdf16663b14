/- own text -/
import Derived.Test.YtepbbahdhhjibaaGreatDoorD03
namespace Go.Proofs.YtepbbahdhhjibaaGreatDoor
set_option linter.unusedSimpArgs false
set_option linter.unusedVariables false
set_option maxHeartbeats 4000000
set_option maxRecDepth 1000000
section
open Go.RowKit
def Dx.own (E : Dx) (v : Value) (x : Nat) : Prop := E.rd x \/ v.ownBlock = some x
structure St (E : Dx) (w : World) (v : Value) (w' : World) (v' : Value) : Prop where
 fr : Fr (E.own v) w w'
 nw : Nw w v v'
theorem St.refl (E : Dx) (w : World) (v : Value) : St E w v w v := ⟨Fr.refl _ w, Nw.refl w v⟩
theorem St.rd {E : Dx} {w w' : World} (v : Value) (h : Fr E.rd w w') : St E w v w' v := ⟨h.mono (fun _ h => .inl (.inl h)), Nw.refl w v⟩
theorem St.trans {E : Dx} {w w1 w2 : World} {v v1 v2 : Value} (h : St E w v w1 v1) (k : St E w1 v1 w2 v2) : St E w v w2 v2 :=
 ⟨h.fr.trans k.fr (fun x hx => hx.elim (fun h => .inl (.inl h)) (fun hx => (h.nw x hx).imp (fun h => .inr h) id)), h.nw.trans k.nw h.fr.size⟩
theorem St.andRd {E : Dx} {w w1 w2 : World} {v v1 : Value} (h : St E w v w1 v1) (k : Fr E.rd w1 w2) : St E w v w2 v1 := h.trans (St.rd v1 k)
theorem St.drewN {E : Dx} {w w1 : World} {v v1 : Value} (h : St E w v w1 v1) (n : Nat) : St E w v (w1.drewN n) v1 := ⟨h.fr.drewN n, h.nw⟩
theorem Dec.blocks {E : Dx} {w : World} {p : Pa} {v : Value} {bs strm : List UInt8} {nb eo : Bool} (h : Dec E w p v bs nb eo strm) : E.D < w.heap.size /\ E.R < w.heap.size /\ E.RB < w.heap.size /\ E.RD < w.heap.size /\ 0 < w.heap.size := by
 obtain ⟨⟨x9, n, line, ls, off, rest, a, b, c⟩, e0, e1, e2, eu, e3, e4, e5⟩ := h
 exact ⟨a.lt, b.lt.1, b.lt.2.1, b.lt.2.2, by have := a.lt; omega⟩
theorem Dec.n2' {E : Dx} {w : World} {p : Pa} {v v' : Value} {bs strm : List UInt8} {nb eo : Bool} (h : Dec E w p v bs nb eo strm) (hn : Nw w v v') :
  ∀ k, v'.ownBlock = some k -> E.B <= k /\ k ≠ E.D /\ k ≠ E.R /\ k ≠ E.RB /\ k ≠ E.RD := by
 intro k hk
 obtain ⟨m1, m2, m3, m4, m5⟩ := h.blocks
 have n0 := h.n0
 rcases hn k hk with h1 | h1
 ·exact h.n2 k h1
 ·omega
theorem Dec.own_lt {E : Dx} {w : World} {p : Pa} {v : Value} {bs strm : List UInt8} {nb eo : Bool} (h : Dec E w p v bs nb eo strm) : ∀ x, E.own v x -> x < w.heap.size := by
 obtain ⟨m1, m2, m3, m4, m5⟩ := h.blocks
 rintro x ((rfl | rfl | rfl | rfl) | hx)
 ·exact m1
 ·exact m2
 ·exact m4
 ·exact m3
 ·exact h.row.lt hx
theorem Dec.own_ge {E : Dx} {w : World} {p : Pa} {v : Value} {bs strm : List UInt8} {nb eo : Bool} (h : Dec E w p v bs nb eo strm) : ∀ x, E.own v x -> E.B <= x := by
 have := h.n0
 rintro x ((rfl | rfl | rfl | rfl) | hx)
 all_goals first | omega | exact (h.n2 x hx).1
theorem St.own {E : Dx} {w w' : World} {v v' : Value} (h : St E w v w' v') : ∀ x, E.own v' x -> E.own v x \/ w.heap.size <= x := by
 rintro x (hx | hx)
 ·exact .inl (.inl hx)
 ·exact (h.nw x hx).imp .inr id
theorem St.size {E : Dx} {w w' : World} {v v' : Value} (h : St E w v w' v') : w.heap.size <= w'.heap.size := h.fr.size
theorem Dec.out {F : Nat -> Prop} {E : Dx} {w w' : World} {p : Pa} {v : Value} {bs strm : List UInt8} {nb eo : Bool} (h : Dec E w p v bs nb eo strm) (hf : Fr F w w') (h0 : ∀ x, x < 5 -> ¬ F x) (h1 : ∀ x, E.own v x -> ¬ F x) : Dec E w' p v bs nb eo strm :=
 h.keep hf h0 (fun x hx => h1 x (.inl hx)) (fun k hk => h1 k (.inr hk))
theorem Dec.buf {E : Dx} {w w' : World} {p : Pa} {v v' : Value} {bs bs' strm : List UInt8} {nb eo : Bool} (h : Dec E w p v bs nb eo strm)
  (hb : ∀ (x9 : Value) (n line ls off : Int), Blk w E.D (decA E p v x9 n (if eo then E.eof else .nilIface) line ls off) 152 -> Blk w' E.D (((decA E p v x9 n (if eo then E.eof else .nilIface) line ls off).setIfInBounds 9 (.int .i8 0)).setIfInBounds 7 v') 152)
  (hr : BufRow w' v' bs') (hf : Fr (fun x => x = E.D \/ v.ownBlock = some x) w w') (hn : Nw w v v') : Dec E w' p v' bs' nb eo strm /\ St E w v w' v' := by
 have hh := h
 obtain ⟨⟨x9, n, line, ls, off, rest, a, b, c⟩, e0, e1, e2, eu, e3, e4, e5⟩ := h
 refine ⟨⟨⟨.int .i8 0, n, line, ls, off, rest, hb _ _ _ _ _ a, b.keep hf ?_ ?_ ?_, c⟩, e0, hr, hf.cell (fun h => ?_) e2, eu.fr hf (fun h => ?_) (fun h => ?_), e3, e4, hh.n2' hn⟩, hf.mono (fun x hx => .inl (hx.imp (fun h => .inl h) id)), hn⟩
 ·rintro (h | h); exact e4.1 h.symm; exact (e5 _ h).2.2.1 rfl
 ·rintro (h | h); exact e4.2.1 h.symm; exact (e5 _ h).2.2.2.1 rfl
 ·rintro (h | h); exact e4.2.2 h.symm; exact (e5 _ h).2.2.2.2 rfl
 all_goals (
  rcases h with h | h
  ·first | omega | (simp at h; omega)
  ·have := (e5 _ h).1; first | omega | (simp at this; omega))
theorem Dec.v_ne {E : Dx} {w : World} {p : Pa} {v : Value} {bs strm : List UInt8} {nb eo : Bool} (h : Dec E w p v bs nb eo strm) : v.ownBlock ≠ some E.D := fun hk => (h.n2 _ hk).2.1 rfl
theorem wbyteL (E : Dx) (p : Pa) (v : Value) (bs strm : List UInt8) (nb eo : Bool) (c : UInt8) (w : World) (h : Dec E w p v bs nb eo strm) (hl : bs.length <= 1099511627776) :
  Calls Tryz.prog 119 #[.pointer (some ⟨E.D, 7, none⟩), .int .u8 c.toNat] w fun e w' => e = .returned .nilIface /\ ∃ v', Dec E w' p v' (bs ++ [c]) nb eo strm /\ St E w v w' v' /\ ∀ k, v.ownBlock = some k -> ∀ j, j < bs.length -> w'.cell? ⟨k, j, none⟩ = w.cell? ⟨k, j, none⟩ := by
 obtain ⟨x9, n, line, ls, off, rest, a, b, c'⟩ := h.ex
 refine (buf_writeByte E.D _ 152 v bs c w a rfl rfl ⟨_, rfl⟩ h.row h.v_ne hl).mono ?_
 rintro e w1 ⟨rfl, v', g1, g2, g3, g4, g5⟩
 have hd := h.buf (v' := v') (w' := w1) (bs' := bs ++ [c]) (fun x9' n' l' s' o' a' => ?_) g2 g3 g4
 ·exact ⟨rfl, v', hd.1, hd.2, g5⟩
 have := a.symm.trans a'
 simp only [Option.some.injEq, Obj.cells.injEq] at this
 rw [<- this.1]; exact g1
theorem wbyte (E : Dx) (p : Pa) (v : Value) (bs strm : List UInt8) (nb eo : Bool) (c : UInt8) (w : World) (h : Dec E w p v bs nb eo strm) (hl : bs.length <= 1099511627776) :
  Calls Tryz.prog 119 #[.pointer (some ⟨E.D, 7, none⟩), .int .u8 c.toNat] w fun e w' => e = .returned .nilIface /\ ∃ v', Dec E w' p v' (bs ++ [c]) nb eo strm /\ St E w v w' v' := by
 refine (wbyteL E p v bs strm nb eo c w h hl).mono ?_
 rintro e w1 ⟨rfl, v', g1, g2, _⟩
 exact ⟨rfl, v', g1, g2⟩
theorem wstring (E : Dx) (p : Pa) (v : Value) (bs strm : List UInt8) (nb eo : Bool) (s : ByteArray) (w : World) (h : Dec E w p v bs nb eo strm) (hl : bs.length <= 1099511627776) (hs0 : 0 < s.size) (hs : s.size <= 64) :
  Calls Tryz.prog 155 #[.pointer (some ⟨E.D, 7, none⟩), .string s] w fun e w' => e = .returned (.tuple #[.int .i64 s.size, .nilIface]) /\ ∃ v', Dec E w' p v' (bs ++ s.data.toList) nb eo strm /\ St E w v w' v' := by
 obtain ⟨x9, n, line, ls, off, rest, a, b, c'⟩ := h.ex
 refine (buf_writeString E.D _ 152 v bs s w a rfl rfl ⟨_, rfl⟩ h.row h.v_ne hl hs0 hs).mono ?_
 rintro e w1 ⟨rfl, v', g1, g2, g3, g4⟩
 refine ⟨rfl, v', h.buf (fun x9' n' l' s' o' a' => ?_) g2 g3 g4⟩
 have := a.symm.trans a'
 simp only [Option.some.injEq, Obj.cells.injEq] at this
 rw [<- this.1]; exact g1
theorem breset (E : Dx) (p : Pa) (v : Value) (bs strm : List UInt8) (nb eo : Bool) (w : World) (h : Dec E w p v bs nb eo strm) :
  Calls Tryz.prog 118 #[.pointer (some ⟨E.D, 7, none⟩)] w fun e w' => e = .returned (.tuple #[]) /\ ∃ v', Dec E w' p v' [] nb eo strm /\ St E w v w' v' /\ (v = .slice none 0 0 ↔ v' = .slice none 0 0) := by
 obtain ⟨x9, n, line, ls, off, rest, a, b, c'⟩ := h.ex
 refine (buf_reset E.D _ 152 v bs w a rfl rfl ⟨_, rfl⟩ h.row h.v_ne).mono ?_
 rintro e w1 ⟨rfl, v', g1, g2, g3, g4, g5⟩
 refine ⟨rfl, v', ?_⟩
 have := h.buf (v' := v') (w' := w1) (bs' := []) (fun x9' n' l' s' o' a' => by
  have := a.symm.trans a'
  simp only [Option.some.injEq, Obj.cells.injEq] at this
  rw [<- this.1]; exact g1) g2 (g3.mono (fun x hx => .inl (.inl hx))) (fun k hk => .inl (by rw [<- g4]; exact hk))
 exact ⟨this.1, this.2, g5⟩
theorem btrunc (E : Dx) (p : Pa) (v : Value) (bs strm : List UInt8) (nb eo : Bool) (n : Nat) (w : World) (h : Dec E w p v bs nb eo strm) (hn : n <= bs.length) (hl : bs.length <= 1099511627776) :
  Calls Tryz.prog 123 #[.pointer (some ⟨E.D, 7, none⟩), .int .i64 n] w fun e w' => e = .returned (.tuple #[]) /\ ∃ v', Dec E w' p v' (bs.take n) nb eo strm /\ St E w v w' v' := by
 obtain ⟨x9, m, line, ls, off, rest, a, b, c'⟩ := h.ex
 refine (buf_truncate E.D n _ 152 v bs w a rfl rfl ⟨_, rfl⟩ h.row h.v_ne hn hl).mono ?_
 rintro e w1 ⟨rfl, v', g1, g2, g3, g4⟩
 refine ⟨rfl, v', h.buf (fun x9' n' l' s' o' a' => ?_) g2 (g3.mono (fun x hx => .inl (.inl hx))) (fun k hk => .inl (by rw [<- g4]; exact hk))⟩
 have := a.symm.trans a'
 simp only [Option.some.injEq, Obj.cells.injEq] at this
 rw [<- this.1]; exact g1
theorem bbytes (E : Dx) (p : Pa) (v : Value) (bs strm : List UInt8) (nb eo : Bool) (w : World) (h : Dec E w p v bs nb eo strm) :
  Calls Tryz.prog 120 #[.pointer (some ⟨E.D, 7, none⟩)] w fun e w' => e = .returned v /\ ∃ n, w' = w.drewN n := by
 obtain ⟨x9, m, line, ls, off, rest, a, b, c'⟩ := h.ex
 exact buf_bytes E.D v bs w (a.cell 7) (a.cell 8) h.row
theorem blen (E : Dx) (p : Pa) (v : Value) (bs strm : List UInt8) (nb eo : Bool) (w : World) (h : Dec E w p v bs nb eo strm) (hl : bs.length <= 1099511627776) :
  Calls Tryz.prog 124 #[.pointer (some ⟨E.D, 7, none⟩)] w fun e w' => e = .returned (.int .i64 bs.length) /\ ∃ n, w' = w.drewN n := by
 obtain ⟨x9, m, line, ls, off, rest, a, b, c'⟩ := h.ex
 rcases h.row with ⟨rfl, rfl⟩ | ⟨g, cap, cells, rfl, _⟩
 ·exact buf_len E.D none 0 0 w (by omega) (a.cell 7) (a.cell 8)
 ·exact buf_len E.D _ _ _ w (by omega) (a.cell 7) (a.cell 8)
def nmB (b : UInt8) : Bool := decide (128 <= b.toNat) || isNB b
theorem readName_do (E : Dx) (p : Pa) (v : Value) (bs : List UInt8) (nm : List UInt8) (c : UInt8) (t : List UInt8) (w : World) (hnm : ∀ b ∈ nm, nmB b = true) (hne : nm ≠ []) (hc : nmB c = false) (h : Dec E w p v bs true false (nm ++ c :: t))
  (hl : bs.length + nm.length <= 1099511627776) :
  Calls Tryz.prog 153 #[.pointer (some ⟨E.D, 0, none⟩)] w fun e w' => e = .returned (.bool true) /\ ∃ v', Dec E w' p v' (bs ++ nm) true false (c :: t) /\ St E w v w' v' := by
 obtain ⟨b0, nm', rfl⟩ : ∃ b0 nm', nm = b0 :: nm' := by cases nm with | nil => exact absurd rfl hne | cons a l => exact ⟨a, l, rfl⟩
 have hb0 := hnm b0 (by simp)
 have hl1 : bs.length + nm'.length + 1 <= 1099511627776 := by simp at hl; omega
 have hc1 : (c.toNat : Int) < 128 /\ isNB c = false := by simp [nmB] at hc; exact ⟨by omega, hc.2⟩
 obtain ⟨hc2, hc3⟩ := hc1
 have hg := (mustgetc_cons E p v bs true b0 (nm' ++ c :: t) w h).mono (R' := fun e w' => e = .returned (.tuple #[.int .u8 b0.toNat, .bool true]) /\ Hid (Dec E w' p v bs false false (nm' ++ c :: t) /\ Fr E.rd w w')) (fun _ _ h => h)
 have hrest : ∀ b ∈ nm', nmB b = true := fun x hx => hnm x (by simp [hx])
 have hrest := zz hrest
 clear h hnm hne
 go_enter Tryz.func153, Tryz.ntmps153
 by_cases hb1 : (b0.toNat : Int) < 128
 all_goals (
  have hb2 : b0.toNat < 128 -> isNB b0 = true := by
   simp [nmB] at hb0; intro h; rcases hb0 with h1 | h1; omega; exact h1
  go_wp2_with (first | (go_at_call 114; refine hg.mono ?_; rintro e w1 ⟨rfl, hh⟩) | (go_at_call 171; refine (isNameByte_do _ _).mono ?_; rintro e w1' ⟨rfl, rfl⟩; rw [hb2 (by omega)]) | (go_at_call 119; refine (wbyte E p v bs _ false false b0 _ hh.out.1 (by omega)).mono ?_; rintro e w2 ⟨rfl, hh2⟩; have hh2 := zz hh2))
  go_loopg [] nm'.length (fun k wr => ∃ (nx done : List UInt8) (v1 : Value), nx.length = k /\ (∀ b ∈ nx, nmB b = true) /\ b0 :: nm' = done ++ nx /\ Dec E wr p v1 (bs ++ done) true false (nx ++ c :: t) /\ St E w v wr v1)
  case atStart =>
   obtain ⟨v2, g1, g2⟩ := hh2.out
   exact ⟨nm', [b0], v2, rfl, hrest.out, rfl, g1.up, (St.rd v hh.out.2).trans g2⟩
  case round =>
   obtain ⟨nx, done, v1, hk, hn, hd, hD, hS⟩ := hrel
   have hS := zz hS
   have hlen := congrArg List.length hd
   simp only [List.length_cons, List.length_append] at hlen
   match nx, hk, hn, hd, hD, hlen with
   | [], hk, hn, hd, hD, hlen =>
    have hg := (mustgetc_cons E p v1 (bs ++ done) true c t wr hD).mono (R' := fun e w' => e = .returned (.tuple #[.int .u8 c.toNat, .bool true]) /\ Hid (Dec E w' p v1 (bs ++ done) false false t /\ Fr E.rd wr w')) (fun _ _ h => h)
    clear hD hh hh2 hrest
    go_wp2_with (first | (go_at_call 114; refine hg.mono ?_; rintro e w3 ⟨rfl, hh3⟩) | (go_at_call 171; refine (isNameByte_do _ _).mono ?_; rintro e w3' ⟨rfl, rfl⟩; rw [hc3]) | (go_at_call 112; refine (ungetc_do' E p v1 _ c t _ hh3.out.1).mono ?_; rintro e w4 ⟨rfl, hh4⟩; have hh4 := zz hh4))
    go_ret
    refine ⟨rfl, v1, ?_, (hS.out.andRd hh3.out.2).andRd hh4.out.2⟩
    have hd' : b0 :: nm' = done := by simpa using hd
    rw [hd']
    exact hh4.out.1
   | b :: nx', hk, hn, hd, hD, hlen =>
    have hb := hn b (by simp)
    have hnx : ∀ b ∈ nx', nmB b = true := fun x hx => hn x (by simp [hx])
    have hnx := zz hnx
    have hl2 : (bs ++ done).length <= 1099511627776 := by simp at hlen ⊢; omega
    have hg := (mustgetc_cons E p v1 (bs ++ done) true b (nx' ++ c :: t) wr hD).mono (R' := fun e w' => e = .returned (.tuple #[.int .u8 b.toNat, .bool true]) /\ Hid (Dec E w' p v1 (bs ++ done) false false (nx' ++ c :: t) /\ Fr E.rd wr w')) (fun _ _ h => h)
    have hb2 : b.toNat < 128 -> isNB b = true := by
     simp [nmB] at hb; intro h; rcases hb with h1 | h1; omega; exact h1
    clear hD hh hh2 hrest hn
    by_cases hb3 : (b.toNat : Int) < 128
    all_goals (
     go_wp2_with (first | (go_at_call 114; refine hg.mono ?_; rintro e w3 ⟨rfl, hh3⟩) | (go_at_call 171; refine (isNameByte_do _ _).mono ?_; rintro e w3' ⟨rfl, rfl⟩; rw [hb2 (by omega)]) | (go_at_call 119; refine (wbyte E p v1 _ _ false false b _ hh3.out.1 hl2).mono ?_; rintro e w4 ⟨rfl, hh4⟩; have hh4 := zz hh4))
     go_roundg nx'.length
     case measure => simp at hk; omega
     case rel =>
      obtain ⟨v2, g1, g2⟩ := hh4.out
      refine ⟨nx', done ++ [b], v2, rfl, hnx.out, by rw [hd]; simp, ?_, (hS.out.andRd hh3.out.2).trans g2⟩
      rw [<- List.append_assoc]; exact g1.up))
end
section
open Go.RowKit
def runList (P : Program) : List Oper -> Act -> World -> Option (Act × World)
 | [], a, w => some (a, w)
 | o :: rest, a, w =>
  match o.guard with
  | some _ => none
  | none =>
   match (execOp a.eval o).run P w with
   | .ok (.value v) w' => runList P rest (a.put o.dst v) w'
   | _ => none
theorem wpList_run {P : Program} {ops : Array Oper} {Q : Exit -> Act -> World -> Prop} (l : List Oper) : ∀ (a : Act) (w : World) (a' : Act) (w' : World), runList P l a w = some (a', w') -> Q .normal a' w' -> wpList P ops Q l a w := by
 induction l with
 | nil => intro a w a' w' h hq; simp only [runList, Option.some.injEq, Prod.mk.injEq] at h; obtain ⟨rfl, rfl⟩ := h; exact hq
 | cons o l ih =>
  intro a w a' w' h hq
  unfold runList at h
  split at h
  ·cases h
  ·rename_i hg
   split at h
   ·rename_i v w1 hr
    refine wpList_plain hg fun K hK => ?_
    unfold Oper.wp
    rw [hr]
    exact hK _ _ (ih _ _ _ _ h hq)
   ·cases h
theorem wp_region_run {P : Program} {Q : Exit -> Act -> World -> Prop} {id : Nat} {l : List Oper} {a : Act} {w : World} (v : Value) (w' : World)
  (h : (runList P l a w).map (fun r => (r.1.defers, r.1.tmps[0]?, r.2)) = some ([], some v, w'))
  (hq : ∀ t, t[0]? = some v -> Q .normal ⟨t, []⟩ w') : (Code.region id l.toArray false).wp P Q a w := by
 cases hr : runList P l a w with
 | none => rw [hr] at h; cases h
 | some r =>
  obtain ⟨⟨t, d⟩, w1⟩ := r
  rw [hr] at h
  simp only [Option.map_some, Option.some.injEq, Prod.mk.injEq] at h
  obtain ⟨rfl, ht, rfl⟩ := h
  exact wp_region_lit (wpList_run l a w _ _ hr (hq t ht))
def rngCells (l : List (Nat × Nat × Nat)) : List Value := l.flatMap fun r => [.int .u16 r.1, .int .u16 r.2.1, .int .u16 r.2.2]
def firstT : List (Nat × Nat × Nat) := [(58, 58, 1), (65, 90, 1), (95, 95, 1), (97, 122, 1), (192, 214, 1), (216, 246, 1), (248, 255, 1), (256, 305, 1), (308, 318, 1), (321, 328, 1), (330, 382, 1), (384, 451, 1), (461, 496, 1), (500, 501, 1), (506, 535, 1), (592, 680, 1), (699, 705, 1), (902, 902, 1), (904, 906, 1), (908, 908, 1), (910, 929, 1), (931, 974, 1), (976, 982, 1), (986, 992, 2), (994, 1011, 1), (1025, 1036, 1), (1038, 1103, 1), (1105, 1116, 1), (1118, 1153, 1), (1168, 1220, 1), (1223, 1224, 1), (1227, 1228, 1), (1232, 1259, 1), (1262, 1269, 1), (1272, 1273, 1), (1329, 1366, 1), (1369, 1369, 1), (1377, 1414, 1), (1488, 1514, 1), (1520, 1522, 1), (1569, 1594, 1), (1601, 1610, 1), (1649, 1719, 1), (1722, 1726, 1), (1728, 1742, 1), (1744, 1747, 1), (1749, 1749, 1), (1765, 1766, 1), (2309, 2361, 1), (2365, 2365, 1), (2392, 2401, 1), (2437, 2444, 1), (2447, 2448, 1), (2451, 2472, 1), (2474, 2480, 1), (2482, 2482, 1), (2486, 2489, 1), (2524, 2525, 1), (2527, 2529, 1), (2544, 2545, 1), (2565, 2570, 1), (2575, 2576, 1), (2579, 2600, 1), (2602, 2608, 1), (2610, 2611, 1), (2613, 2614, 1), (2616, 2617, 1), (2649, 2652, 1), (2654, 2654, 1), (2674, 2676, 1), (2693, 2699, 1), (2701, 2701, 1), (2703, 2705, 1), (2707, 2728, 1), (2730, 2736, 1), (2738, 2739, 1), (2741, 2745, 1), (2749, 2784, 35), (2821, 2828, 1), (2831, 2832, 1), (2835, 2856, 1), (2858, 2864, 1), (2866, 2867, 1), (2870, 2873, 1), (2877, 2877, 1), (2908, 2909, 1), (2911, 2913, 1), (2949, 2954, 1), (2958, 2960, 1), (2962, 2965, 1), (2969, 2970, 1), (2972, 2972, 1), (2974, 2975, 1), (2979, 2980, 1), (2984, 2986, 1), (2990, 2997, 1), (2999, 3001, 1), (3077, 3084, 1), (3086, 3088, 1), (3090, 3112, 1), (3114, 3123, 1), (3125, 3129, 1), (3168, 3169, 1), (3205, 3212, 1), (3214, 3216, 1), (3218, 3240, 1), (3242, 3251, 1), (3253, 3257, 1), (3294, 3294, 1), (3296, 3297, 1), (3333, 3340, 1), (3342, 3344, 1), (3346, 3368, 1), (3370, 3385, 1), (3424, 3425, 1), (3585, 3630, 1), (3632, 3632, 1), (3634, 3635, 1), (3648, 3653, 1), (3713, 3714, 1), (3716, 3716, 1), (3719, 3720, 1), (3722, 3725, 3), (3732, 3735, 1), (3737, 3743, 1), (3745, 3747, 1), (3749, 3751, 2), (3754, 3755, 1), (3757, 3758, 1), (3760, 3760, 1), (3762, 3763, 1), (3773, 3773, 1), (3776, 3780, 1), (3904, 3911, 1), (3913, 3945, 1), (4256, 4293, 1), (4304, 4342, 1), (4352, 4352, 1), (4354, 4355, 1), (4357, 4359, 1), (4361, 4361, 1), (4363, 4364, 1), (4366, 4370, 1), (4412, 4416, 2), (4428, 4432, 2), (4436, 4437, 1), (4441, 4441, 1), (4447, 4449, 1), (4451, 4457, 2), (4461, 4462, 1), (4466, 4467, 1), (4469, 4510, 41), (4520, 4523, 3), (4526, 4527, 1), (4535, 4536, 1), (4538, 4538, 1), (4540, 4546, 1), (4587, 4592, 5), (4601, 4601, 1), (7680, 7835, 1), (7840, 7929, 1), (7936, 7957, 1), (7960, 7965, 1), (7968, 8005, 1), (8008, 8013, 1), (8016, 8023, 1), (8025, 8027, 2), (8029, 8029, 1), (8031, 8061, 1), (8064, 8116, 1), (8118, 8124, 1), (8126, 8126, 1), (8130, 8132, 1), (8134, 8140, 1), (8144, 8147, 1), (8150, 8155, 1), (8160, 8172, 1), (8178, 8180, 1), (8182, 8188, 1), (8486, 8486, 1), (8490, 8491, 1), (8494, 8494, 1), (8576, 8578, 1), (12295, 12295, 1), (12321, 12329, 1), (12353, 12436, 1), (12449, 12538, 1), (12549, 12588, 1), (19968, 40869, 1), (44032, 55203, 1)]
def secondT : List (Nat × Nat × Nat) := [(45, 46, 1), (48, 57, 1), (183, 183, 1), (720, 721, 1), (768, 837, 1), (864, 865, 1), (903, 903, 1), (1155, 1158, 1), (1425, 1441, 1), (1443, 1465, 1), (1467, 1469, 1), (1471, 1471, 1), (1473, 1474, 1), (1476, 1600, 124), (1611, 1618, 1), (1632, 1641, 1), (1648, 1648, 1), (1750, 1756, 1), (1757, 1759, 1), (1760, 1764, 1), (1767, 1768, 1), (1770, 1773, 1), (1776, 1785, 1), (2305, 2307, 1), (2364, 2364, 1), (2366, 2380, 1), (2381, 2381, 1), (2385, 2388, 1), (2402, 2403, 1), (2406, 2415, 1), (2433, 2435, 1), (2492, 2492, 1), (2494, 2495, 1), (2496, 2500, 1), (2503, 2504, 1), (2507, 2509, 1), (2519, 2519, 1), (2530, 2531, 1), (2534, 2543, 1), (2562, 2620, 58), (2622, 2623, 1), (2624, 2626, 1), (2631, 2632, 1), (2635, 2637, 1), (2662, 2671, 1), (2672, 2673, 1), (2689, 2691, 1), (2748, 2748, 1), (2750, 2757, 1), (2759, 2761, 1), (2763, 2765, 1), (2790, 2799, 1), (2817, 2819, 1), (2876, 2876, 1), (2878, 2883, 1), (2887, 2888, 1), (2891, 2893, 1), (2902, 2903, 1), (2918, 2927, 1), (2946, 2947, 1), (3006, 3010, 1), (3014, 3016, 1), (3018, 3021, 1), (3031, 3031, 1), (3047, 3055, 1), (3073, 3075, 1), (3134, 3140, 1), (3142, 3144, 1), (3146, 3149, 1), (3157, 3158, 1), (3174, 3183, 1), (3202, 3203, 1), (3262, 3268, 1), (3270, 3272, 1), (3274, 3277, 1), (3285, 3286, 1), (3302, 3311, 1), (3330, 3331, 1), (3390, 3395, 1), (3398, 3400, 1), (3402, 3405, 1), (3415, 3415, 1), (3430, 3439, 1), (3633, 3633, 1), (3636, 3642, 1), (3654, 3654, 1), (3655, 3662, 1), (3664, 3673, 1), (3761, 3761, 1), (3764, 3769, 1), (3771, 3772, 1), (3782, 3782, 1), (3784, 3789, 1), (3792, 3801, 1), (3864, 3865, 1), (3872, 3881, 1), (3893, 3897, 2), (3902, 3903, 1), (3953, 3972, 1), (3974, 3979, 1), (3984, 3989, 1), (3991, 3991, 1), (3993, 4013, 1), (4017, 4023, 1), (4025, 4025, 1), (8400, 8412, 1), (8417, 12293, 3876), (12330, 12335, 1), (12337, 12341, 1), (12441, 12442, 1), (12445, 12446, 1), (12540, 12542, 1)]
theorem wp_table {P : Program} {F : Func} {R : Ending -> World -> Prop} {i0 i1 : Nat} {l0 l1 : List Oper} {a : Act} {w : World} (v0 v : Value) (w' : World)
  (h0 : (runList P l0 a w).map (fun r => (r.1.defers, r.1.tmps, r.2)) = some ([], a.tmps.setIfInBounds 0 v0, w)) (ha : a.defers = [])
  (h1 : (runList P l1 ⟨a.tmps.setIfInBounds 0 v0, []⟩ w).map (fun r => (r.1.defers, r.1.tmps[0]?, r.2)) = some ([], some v, w'))
  (hF : ∀ t : Array Value, t[0]? = some v -> (results F t).run P w' = .ok v w') (hR : R (.returned v) w') :
  ((Code.region i0 l0.toArray false).seq ((Code.region i1 l1.toArray false).seq Code.ret)).wp P (bodyPost P F R) a w := by
 refine wp_seq ?_
 cases hr : runList P l0 a w with
 | none => rw [hr] at h0; cases h0
 | some r =>
  obtain ⟨⟨t, d⟩, w1⟩ := r
  rw [hr] at h0
  simp only [Option.map_some, Option.some.injEq, Prod.mk.injEq] at h0
  obtain ⟨rfl, rfl, rfl⟩ := h0
  refine wp_region_lit (wpList_run l0 a _ _ _ hr ?_)
  refine wp_seq ?_
  refine wp_region_run v w' h1 ?_
  intro t ht
  exact wp_ret (bodyPost_ret (hF t ht) rfl hR)
theorem second_do (w : World) : Calls Tryz.prog 108 #[] w fun e w' => e = .returned (.pointer (some ⟨w.heap.size + 1, 0, none⟩)) /\
  w' = (w.alloc (.cells (rngCells secondT).toArray 253)).alloc (.cells #[.slice (some ⟨w.heap.size, 0, none⟩) 112 112, .slice none 0 0, .int .i64 0] 249) := by
 go_enter Tryz.func108, Tryz.ntmps108
 refine wp_table (.pointer none) (.pointer (some ⟨(w.alloc (.cells (rngCells secondT).toArray 253)).heap.size, 0, none⟩)) ((w.alloc (.cells (rngCells secondT).toArray 253)).alloc (.cells #[.slice (some ⟨w.heap.size, 0, none⟩) 112 112, .slice none 0 0, .int .i64 0] 249)) ?_ rfl ?_ ?_ ⟨?_, rfl⟩
 ·kernel_rfl
 ·kernel_rfl
 ·intro t ht
  simp [results, Tryz.f108, ht]
 ·simp
end
section
open Go.RowKit
theorem first_do (w : World) : Calls Tryz.prog 107 #[] w fun e w' => e = .returned (.pointer (some ⟨w.heap.size + 1, 0, none⟩)) /\
  w' = (w.alloc (.cells (rngCells firstT).toArray 253)).alloc (.cells #[.slice (some ⟨w.heap.size, 0, none⟩) 190 190, .slice none 0 0, .int .i64 0] 249) := by
 go_enter Tryz.func107, Tryz.ntmps107
 refine wp_table (.pointer none) (.pointer (some ⟨(w.alloc (.cells (rngCells firstT).toArray 253)).heap.size, 0, none⟩)) ((w.alloc (.cells (rngCells firstT).toArray 253)).alloc (.cells #[.slice (some ⟨w.heap.size, 0, none⟩) 190 190, .slice none 0 0, .int .i64 0] 249)) ?_ rfl ?_ ?_ ⟨?_, rfl⟩
 ·kernel_rfl
 ·kernel_rfl
 ·intro t ht
  simp [results, Tryz.f107, ht]
 ·simp
end
end Go.Proofs.YtepbbahdhhjibaaGreatDoor
