/- own text -/
import Derived.Test.YtepbbahdhhjibaaGreatDoorD16
namespace Go.Proofs.YtepbbahdhhjibaaGreatDoor
set_option linter.unusedSimpArgs false
set_option linter.unusedVariables false
set_option maxHeartbeats 4000000
set_option maxRecDepth 100000
section
open Go.RowKit
def z108 : Value := .agg #[.string ⟨#[]⟩, .string ⟨#[]⟩, .slice none 0 0]
def z112 : Value := .agg #[.string ⟨#[]⟩, .string ⟨#[]⟩]
theorem ta_108_108 (x : Value) (w : World) : (Instr.typeAssert (.iface 108 x) 65 108 true).run Tryz.prog w = .ok (.tuple #[x, .bool true]) w := by kernel_rfl
theorem ta_108_112 (x : Value) (w : World) : (Instr.typeAssert (.iface 108 x) 65 112 true).run Tryz.prog w = .ok (.tuple #[z112, .bool false]) w := by kernel_rfl
theorem ta_112_108 (x : Value) (w : World) : (Instr.typeAssert (.iface 112 x) 65 108 true).run Tryz.prog w = .ok (.tuple #[z108, .bool false]) w := by kernel_rfl
theorem ta_112_112 (x : Value) (w : World) : (Instr.typeAssert (.iface 112 x) 65 112 true).run Tryz.prog w = .ok (.tuple #[x, .bool true]) w := by kernel_rfl
theorem ta_113_108 (x : Value) (w : World) : (Instr.typeAssert (.iface 113 x) 65 108 true).run Tryz.prog w = .ok (.tuple #[z108, .bool false]) w := by kernel_rfl
theorem ta_113_112 (x : Value) (w : World) : (Instr.typeAssert (.iface 113 x) 65 112 true).run Tryz.prog w = .ok (.tuple #[z112, .bool false]) w := by kernel_rfl
theorem ta_114_108 (x : Value) (w : World) : (Instr.typeAssert (.iface 114 x) 65 108 true).run Tryz.prog w = .ok (.tuple #[z108, .bool false]) w := by kernel_rfl
theorem ta_114_112 (x : Value) (w : World) : (Instr.typeAssert (.iface 114 x) 65 112 true).run Tryz.prog w = .ok (.tuple #[z112, .bool false]) w := by kernel_rfl
theorem ta_116_108 (x : Value) (w : World) : (Instr.typeAssert (.iface 116 x) 65 108 true).run Tryz.prog w = .ok (.tuple #[z108, .bool false]) w := by kernel_rfl
theorem ta_116_112 (x : Value) (w : World) : (Instr.typeAssert (.iface 116 x) 65 112 true).run Tryz.prog w = .ok (.tuple #[z112, .bool false]) w := by kernel_rfl
theorem eof_eql (E : Dx) (hE : E.et = 192) (w : World) : (binOp .eql 70 E.eof E.eof).run Tryz.prog w = .ok (.bool true) w := by
 obtain ⟨i, hi, hc⟩ := Option.map_eq_some_iff.1 (show (Tryz.prog.info? 192).map (·.comparable) = some true by kernel_rfl)
 obtain ⟨j, hj, _⟩ := Option.map_eq_some_iff.1 (show (Tryz.prog.info? 194).map (·.size) = some 1 by kernel_rfl)
 unfold Dx.eof
 rw [hE]
 exact run_eql_iface_ptr_same (P := Tryz.prog) w E.ep Tryz.underlying70 Tryz.underlying192 hi hc hj
theorem stk_head {E : Dx} {w : World} {p : Pa} {v : Value} {bs strm : List UInt8} {nb0 eo : Bool} {opn : List (List Nat)} {nodes : List Nat} (hd : Dec E w p v bs nb0 eo strm) (hk : Stk E w v p opn nodes) :
  (opn = [] /\ w.cell? ⟨E.D, 11, none⟩ = some (.pointer none)) \/ ∃ b, opn ≠ [] /\ w.cell? ⟨E.D, 11, none⟩ = some (.pointer (some ⟨b, 0, none⟩)) /\ w.cell? ⟨b, 1, none⟩ = some (.int .i64 0) := by
 obtain ⟨x9, n, line, ls, off, rest, aD, _⟩ := hd.ex
 have c11 := aD.cell 11
 simp [decA] at c11
 obtain ⟨sb, fn, fb, l1, l2, hnodes⟩ := hk.ex
 cases opn with
 | nil => cases sb with
  | nil => left; exact ⟨rfl, by rw [c11]; exact congrArg some l1⟩
  | cons b2 sb => exact (show False from l1).elim
 | cons nm2 opn => cases sb with
  | nil => exact (show False from l1).elim
  | cons b2 sb =>
   obtain ⟨hst, nx, hb2, _⟩ := (show p.stk = .pointer (some ⟨b2, 0, none⟩) /\ ∃ nx, Blk w b2 (nodeA nx (nameB nm2)) 156 /\ Lst w nx (opn.map nameB) sb from l1)
   right
   exact ⟨b2, by simp, by rw [c11, hst], by rw [hb2.cell]; rfl⟩
theorem dec17 {E : Dx} {w : World} {p : Pa} {v : Value} {bs strm : List UInt8} {nb0 eo : Bool} (hd : Dec E w p v bs nb0 eo strm) : w.cell? ⟨E.D, 17, none⟩ = some .nilIface := by
 obtain ⟨x9, n, line, ls, off, rest, aD, _⟩ := hd.ex
 rw [aD.cell]; rfl
theorem token_plain (E : Dx) (p : Pa) (v : Value) (bs strm : List UInt8) (nb0 eo : Bool) (opn : List (List Nat)) (nodes : List Nat) (w : World) (ty : TypeId) (Post : Value -> World -> Prop) (hty : ty = 113 \/ ty = 114 \/ ty = 116) (hd : Dec E w p v bs nb0 eo strm) (hk : Stk E w v p opn nodes)
  (hraw : Calls Tryz.prog 66 #[.pointer (some ⟨E.D, 0, none⟩)] w fun e w' => ∃ x, e = .returned (.tuple #[.iface ty x, .nilIface]) /\ w'.cell? ⟨E.D, 0, none⟩ = some (.bool true) /\ Hid (Post x w')) :
  Calls Tryz.prog 38 #[.pointer (some ⟨E.D, 0, none⟩)] w fun e w' => ∃ x, e = .returned (.tuple #[.iface ty x, .nilIface]) /\ Post x w' := by
 have hsk := stk_head hd hk
 have c17 := dec17 hd
 clear hd hk
 have t1 := ta_113_108
 have t2 := ta_113_112
 have t3 := ta_114_108
 have t4 := ta_114_112
 have t5 := ta_116_108
 have t6 := ta_116_112
 rcases hty with rfl | rfl | rfl
 all_goals (
  rcases hsk with ⟨_, c11⟩ | ⟨b, _, c11, b1⟩
  ·go_enter Tryz.func38, Tryz.ntmps38
   go_wp2_with (go_at_call 66; refine hraw.mono ?_; rintro e w1 ⟨x, rfl, k0, k1⟩)
   go_ret2
   exact ⟨x, rfl, k1.out⟩
  ·go_enter Tryz.func38, Tryz.ntmps38
   go_wp2_with (go_at_call 66; refine hraw.mono ?_; rintro e w1 ⟨x, rfl, k0, k1⟩)
   go_ret2
   exact ⟨x, rfl, k1.out⟩)
theorem token_eof (E : Dx) (p : Pa) (v : Value) (bs strm : List UInt8) (nb0 eo : Bool) (nodes : List Nat) (w : World) (Post : World -> Prop) (hE : E.et = 192) (hd : Dec E w p v bs nb0 eo strm) (hk : Stk E w v p [] nodes)
  (hraw : Calls Tryz.prog 66 #[.pointer (some ⟨E.D, 0, none⟩)] w fun e w' => e = .returned (.tuple #[.nilIface, E.eof]) /\ w'.cell? ⟨0, 0, none⟩ = some E.eof /\ w'.cell? ⟨E.D, 11, none⟩ = some (.pointer none) /\ Hid (Post w')) :
  Calls Tryz.prog 38 #[.pointer (some ⟨E.D, 0, none⟩)] w fun e w' => e = .returned (.tuple #[.nilIface, E.eof]) /\ Post w' := by
 have hsk := stk_head hd hk
 have c17 := dec17 hd
 clear hd hk
 have he : E.eof = .iface E.et (.pointer (some E.ep)) := rfl
 have heq := eof_eql E hE
 rw [he, hE] at hraw heq ⊢
 rcases hsk with ⟨_, c11⟩ | ⟨b, h, _⟩
 ·clear he hE
  go_enter Tryz.func38, Tryz.ntmps38
  go_wp2_with (go_at_call 66; refine hraw.mono ?_; rintro e w1 ⟨rfl, k0, k11, k1⟩)
  go_ret2
  exact ⟨rfl, k1.out⟩
 ·exact absurd rfl h
end
section
open Go.RowKit
structure TSt (E : Dx) (w : World) (v : Value) (nodes : List Nat) (w' : World) (v' : Value) (nodes' : List Nat) : Prop where
 fr : Fr (fun x => E.own v x \/ x ∈ nodes) w w'
 nw : ∀ x, (E.own v' x \/ x ∈ nodes') -> (E.own v x \/ x ∈ nodes) \/ w.heap.size <= x
theorem TSt.of {E : Dx} {w w' : World} {v v' : Value} (nodes : List Nat) (s : St E w v w' v') : TSt E w v nodes w' v' nodes :=
 ⟨s.fr.mono (fun x hx => Or.inl (Or.inl hx)), fun x hx => hx.elim (fun h => (s.own x h).imp Or.inl id) (fun h => Or.inl (Or.inr h))⟩
theorem TSt.trans {E : Dx} {w w1 w2 : World} {v v1 v2 : Value} {n n1 n2 : List Nat} (h : TSt E w v n w1 v1 n1) (k : TSt E w1 v1 n1 w2 v2 n2) : TSt E w v n w2 v2 n2 :=
 ⟨h.fr.trans k.fr (fun x hx => h.nw x hx), fun x hx => (k.nw x hx).elim (fun hy => h.nw x hy) (fun hy => Or.inr (Nat.le_trans h.fr.size hy))⟩
theorem token_close_in (E : Dx) (p : Pa) (v : Value) (bs strm tl : List UInt8) (opn : List (List Nat)) (nodes : List Nat) (nm : List Nat) (w : World) (hx : (nb nm == [120, 109, 108, 110, 115]) = false) (hlen : opn.length <= 1099511627775) (hd : Dec E w p v bs true false strm) (hk : Stk E w v p (nm :: opn) nodes)
  (hraw : Calls Tryz.prog 66 #[.pointer (some ⟨E.D, 0, none⟩)] w fun e w' => ∃ v' p' bs', e = .returned (.tuple #[.iface 112 (.agg #[.string ⟨#[]⟩, .string ⟨(nb nm).toArray⟩]), .nilIface]) /\ Dec E w' p' v' bs' true false tl /\ St E w v w' v' /\ p'.stk = p.stk /\ p'.free = p.free /\ p'.depth = p.depth /\ p'.need = false) :
  Calls Tryz.prog 38 #[.pointer (some ⟨E.D, 0, none⟩)] w fun e w' => ∃ v' p' bs' nodes', e = .returned (.tuple #[.iface 112 (.agg #[.string ⟨#[]⟩, .string ⟨(nb nm).toArray⟩]), .nilIface]) /\ Dec E w' p' v' bs' true false tl /\ Stk E w' v' p' opn nodes' /\ p'.need = false /\ TSt E w v nodes w' v' nodes' := by
 have hsk := stk_head hd hk
 have c17 := dec17 hd
 have t1 := ta_112_108
 have t2 := ta_112_112
 have hr := hraw.mono (R' := fun e w' => e = .returned (.tuple #[.iface 112 (.agg #[.string ⟨#[]⟩, .string ⟨(nb nm).toArray⟩]), .nilIface]) /\ w'.cell? ⟨E.D, 0, none⟩ = some (.bool true) /\ Hid (∃ v' p' bs', Dec E w' p' v' bs' true false tl /\ St E w v w' v' /\ Stk E w' v' p' (nm :: opn) nodes /\ p'.need = false)) (by
  rintro e w' ⟨v', p', bs', rfl, h1, h2, h3, h4, h5, h6⟩
  exact ⟨rfl, h1.cells.2.2.2, v', p', bs', h1, h2, (hk.step h2).pa h3 h4 h5, h6⟩)
 have hpop : ∀ w1 v1 p1 bs1, Dec E w1 p1 v1 bs1 true false tl -> Stk E w1 v1 p1 (nm :: opn) nodes -> p1.need = false -> Calls Tryz.prog 72 #[.pointer (some ⟨E.D, 0, none⟩), .pointer (some ⟨w1.heap.size, 0, none⟩)] (w1.alloc (.cells #[.string ⟨#[]⟩, .string ⟨(nb nm).toArray⟩] 112)) fun e w2 => e = .returned (.bool true) /\
   w2.cell? ⟨w1.heap.size, 0, none⟩ = some (.string ⟨#[]⟩) /\ w2.cell? ⟨w1.heap.size, 1, none⟩ = some (.string ⟨(nb nm).toArray⟩) /\ Hid (∃ p' nodes', p'.need = false /\ Dec E w2 p' v1 bs1 true false tl /\ Stk E w2 v1 p' opn nodes' /\ TSt E w1 v1 nodes w2 v1 nodes') := fun w1 v1 p1 bs1 h1 h2 h3 => by
  have hold : Old w1 (w1.alloc (.cells #[.string ⟨#[]⟩, .string ⟨(nb nm).toArray⟩] 112)) := (Fr.refl _ w1).alloc _
  have hB := Beside.new h1 (.cells #[.string ⟨#[]⟩, .string ⟨(nb nm).toArray⟩] 112)
  refine (popEl_do E p1 v1 bs1 tl true false nm opn nodes w1.heap.size _ hx (h1.old hold) (h2.step (St.ofOld v1 hold)) hlen hB (fun h => Nat.lt_irrefl _ (h2.bes _ h).lt) (Blk.new w1 _ 112) (fun m hm e => ?_)).mono ?_
  ·obtain ⟨b, clk, m1, m2, m3, m4⟩ := h2.mp
   rw [m1] at hm
   cases hm
   exact Nat.lt_irrefl _ (e ▸ m3.lt)
  ·rintro e w2 ⟨rfl, p', nodes', n1, n2, n3, k1, k2, k3, k4, k5⟩
   refine ⟨rfl, by rw [k5.cell]; rfl, by rw [k5.cell]; rfl, p', nodes', by rw [n1, h3], k1, k2, ?_, ?_⟩
   ·refine (Fr.of_old hold).trans k4 ?_
    rintro x (rfl | hx | rfl)
    ·exact Or.inl (Or.inl (Or.inl (Or.inl rfl)))
    ·exact Or.inl (Or.inr hx)
    ·exact Or.inr (Nat.le_refl _)
   ·rintro x (hx | hx)
    ·exact Or.inl (Or.inl hx)
    ·exact Or.inl (Or.inr ((k3 x).1 hx))
 replace hpop := zz hpop
 clear hd hk hraw
 rcases hsk with ⟨h0, _⟩ | ⟨b, _, c11, b1⟩
 ·cases h0
 ·go_enter Tryz.func38, Tryz.ntmps38
  go_wp2_with (first | (go_at_call 66; refine hr.mono ?_; rintro e w1 ⟨rfl, k0, k1⟩; obtain ⟨v1, p1, bs1, d1, s1, st1, n1⟩ := k1.out; replace d1 := zz d1; replace s1 := zz s1; replace st1 := zz st1; clear k1) | (go_at_call 72; refine (hpop.out w1 v1 p1 bs1 d1.out st1.out n1).mono ?_; rintro e w2 ⟨rfl, e0, e1, k2⟩))
  go_ret2
  obtain ⟨p', nodes', m1, m2, m3, m4⟩ := k2.out
  exact ⟨v1, p', bs1, nodes', rfl, m2, m3, m1, (TSt.of nodes s1.out).trans m4⟩
end
section
open Go.RowKit
theorem ats_cells (ats : List At) (k : Nat) (hk : k < ats.length) : (ats.flatMap At.cells)[k * 3]? = some (.string ⟨#[]⟩) /\ (ats.flatMap At.cells)[k * 3 + 1]? = some (.string ⟨(nb ats[k].nm).toArray⟩) /\ (ats.flatMap At.cells)[k * 3 + 2]? = some (.string ⟨(nb ats[k].rs).toArray⟩) := by
 induction ats generalizing k with
 | nil => simp at hk
 | cons a ats ih =>
  cases k with
  | zero => simp [At.cells]
  | succ k =>
   have := ih k (by simpa using hk)
   have e : (k + 1) * 3 = k * 3 + 1 + 1 + 1 := by omega
   rw [e]
   simpa [At.cells] using this
structure StartP (E : Dx) (w : World) (v : Value) (nodes : List Nat) (nm : List Nat) (opn : List (List Nat)) (ats : List At) (tl : List UInt8) (nd : Bool) (tS tL : ByteArray) (va : Value) (w' : World) : Prop where
 ex : ∃ v' p' bs' nodes', Dec E w' p' v' bs' true false tl /\ Stk E w' v' p' (nm :: opn) nodes' /\ TSt E w v nodes w' v' nodes' /\
   w'.ownsRow 0 110 3 va ats.length (ats.flatMap At.cells) /\ (∀ k, va.ownBlock = some k -> Beside E w' v' k /\ k ∉ nodes' /\ w.heap.size <= k) /\ (p'.need = nd /\ p'.tcS = tS /\ p'.tcL = tL)
theorem token_start_in (E : Dx) (p : Pa) (v : Value) (bs strm tl : List UInt8) (opn : List (List Nat)) (nodes : List Nat) (nm : List Nat) (ats : List At) (nd : Bool) (tS tL : ByteArray) (w : World) (hx : (nb nm == [120, 109, 108, 110, 115]) = false) (hxa : ∀ a ∈ ats, (nb a.nm == [120, 109, 108, 110, 115]) = false) (hlen : opn.length <= 1099511627775) (hn : ats.length <= 549755813888) (hd : Dec E w p v bs true false strm) (hk : Stk E w v p opn nodes)
  (hraw : Calls Tryz.prog 66 #[.pointer (some ⟨E.D, 0, none⟩)] w fun e w' => ∃ va v' p' bs', e = .returned (.tuple #[.iface 108 (.agg #[.string ⟨#[]⟩, .string ⟨(nb nm).toArray⟩, va]), .nilIface]) /\ Dec E w' p' v' bs' true false tl /\ St E w v w' v' /\ p'.stk = p.stk /\ p'.free = p.free /\ p'.depth = p.depth /\ (p'.need = nd /\ p'.tcS = tS /\ p'.tcL = tL) /\
   w'.ownsRow 0 110 3 va ats.length (ats.flatMap At.cells) /\ (∀ k, va.ownBlock = some k -> Beside E w' v' k /\ w.heap.size <= k)) :
  Calls Tryz.prog 38 #[.pointer (some ⟨E.D, 0, none⟩)] w fun e w' => ∃ va, e = .returned (.tuple #[.iface 108 (.agg #[.string ⟨#[]⟩, .string ⟨(nb nm).toArray⟩, va]), .nilIface]) /\ StartP E w v nodes nm opn ats tl nd tS tL va w' := by
 have hsk := stk_head hd hk
 have c17 := dec17 hd
 have t1 := ta_108_108
 have hnlt : ∀ x ∈ nodes, x < w.heap.size := fun x hx => (hk.bes x hx).lt
 have hr := hraw.mono (R' := fun e w' => ∃ pa na ca, e = .returned (.tuple #[.iface 108 (.agg #[.string ⟨#[]⟩, .string ⟨(nb nm).toArray⟩, .slice pa na ca]), .nilIface]) /\ w'.cell? ⟨E.D, 0, none⟩ = some (.bool true) /\ na = ats.length /\ (0 < na -> ∃ g, pa = some ⟨g, 0, none⟩) /\ Hid (∃ v' p' bs', Dec E w' p' v' bs' true false tl /\ St E w v w' v' /\ Stk E w' v' p' opn nodes /\ (p'.need = nd /\ p'.tcS = tS /\ p'.tcL = tL) /\
   w'.ownsRow 0 110 3 (.slice pa na ca) ats.length (ats.flatMap At.cells) /\ (∀ k, (Value.slice pa na ca).ownBlock = some k -> Beside E w' v' k /\ w.heap.size <= k))) (by
  rintro e w' ⟨va, v', p', bs', rfl, h1, h2, h3, h4, h5, hnd, h6, h7⟩
  rcases h6.2 with ⟨rfl, hn0⟩ | ⟨g, cap, cur, rfl, _⟩
  ·exact ⟨none, 0, 0, rfl, h1.cells.2.2.2, by rw [hn0], fun h => absurd h (by omega), v', p', bs', h1, h2, (hk.step h2).pa h3 h4 h5, hnd, h6, h7⟩
  ·exact ⟨some ⟨g, 0, none⟩, ats.length, cap, rfl, h1.cells.2.2.2, rfl, fun _ => ⟨g, rfl⟩, v', p', bs', h1, h2, (hk.step h2).pa h3 h4 h5, hnd, h6, h7⟩)
 replace hxa := zz hxa
 clear hd hk hraw
 rcases hsk with ⟨-, c11⟩ | ⟨b, -, c11, b1⟩
 all_goals (
  go_enter Tryz.func38, Tryz.ntmps38
  go_wp2_with (first | (go_at_call 66; refine hr.mono ?_; rintro e w1 ⟨pa, na, ca, rfl, k0, hna, hpa, k1⟩))
  obtain ⟨v1, p1, bs1, d1, s1, st1, nd1, row1, ro1⟩ := k1.out
  have hS := Blk.new w1 #[.string ⟨#[]⟩, .string ⟨(nb nm).toArray⟩, .slice pa ats.length ca] 108
  have hBS := Beside.new d1 (.cells #[.string ⟨#[]⟩, .string ⟨(nb nm).toArray⟩, .slice pa ats.length ca] 108)
  have hold0 : Old w1 (w1.alloc (.cells #[.string ⟨#[]⟩, .string ⟨(nb nm).toArray⟩, .slice pa ats.length ca] 108)) := (Fr.refl _ w1).alloc _
  obtain ⟨w1a, hw1a⟩ : ∃ w1a, w1a = w1.alloc (.cells #[.string ⟨#[]⟩, .string ⟨(nb nm).toArray⟩, .slice pa ats.length ca] 108) := ⟨_, rfl⟩
  rw [<- hw1a] at hS hBS hold0 ⊢
  clear hw1a
  have hrowc : ∀ w', Old w1 w' -> ∀ g, pa = some ⟨g, 0, none⟩ -> ∀ i (h : i < ats.length), w'.cell? ⟨g, i * 3, none⟩ = some (.string ⟨#[]⟩) /\ w'.cell? ⟨g, i * 3 + 1, none⟩ = some (.string ⟨(nb ats[i].nm).toArray⟩) /\ w'.cell? ⟨g, i * 3 + 2, none⟩ = some (.string ⟨(nb ats[i].rs).toArray⟩) := by
   intro w' ho g hg i hi
   have hc := fun j u hj => ho.cell (show w1.cell? ⟨g, j, none⟩ = some u from by
    have := row1.cells (g := g) (by rw [hg]; rfl) j u hj
    rw [Lib.addr_add, Nat.zero_add] at this
    exact this)
   obtain ⟨h1, h2, h3⟩ := ats_cells ats i hi
   exact ⟨hc _ _ h1, hc _ _ h2, hc _ _ h3⟩
  replace hrowc := zz hrowc
  replace hS := zz hS
  replace hBS := zz hBS
  replace hold0 := zz hold0
  replace d1 := zz d1
  replace s1 := zz s1
  replace st1 := zz st1
  replace row1 := zz row1
  replace ro1 := zz ro1
  clear k1 hr
  subst hna
  go_loopg [103] ats.length (fun k s wr => ∃ i : Nat, s = .int .i64 i /\ i + k = ats.length /\ Old w1a wr)
  case atStart => exact ⟨0, rfl, by omega, Fr.refl _ _⟩
  case round =>
   obtain ⟨i, rfl, hik, hO⟩ := hrel
   by_cases hi : i < ats.length
   ·obtain ⟨g, rfl⟩ := hpa (by omega)
    obtain ⟨q0, q1, q2⟩ := hrowc.out wr (hold0.out.old hO) g rfl i hi
    have hxi := hxa.out ats[i] (List.getElem_mem hi)
    generalize hnmi : (nb ats[i].nm) = nmi at *
    generalize hrsi : (nb ats[i].rs) = rsi at *
    have hI : IntKind.i64.wrap ((i : Int) + 1) = ((i + 1 : Nat) : Int) := by rw [IntWalk.i64_in _ (by omega)]; omega
    have hi2 : (i : Int) < (ats.length : Int) := by omega
    replace hO := zz hO
    replace hnmi := zz hnmi
    replace hrsi := zz hrsi
    go_wp2
    go_roundg (gk - 1)
    case measure => omega
    case rel => exact ⟨i + 1, rfl, by omega, hO.out.alloc _⟩
   ·have hi2 : ¬ ((i : Int) < (ats.length : Int)) := by omega
    have ho : Old w1 wr := hold0.out.old hO
    have hSr := hS.out.keep hO (fun h => h)
    have S0 := hSr.cell 0
    have S1 := hSr.cell 1
    have S2 := hSr.cell 2
    simp at S0 S1 S2
    have hDr := d1.out.old ho
    have hStr := st1.out.step (St.ofOld v1 ho)
    have hBr := hBS.out.old hO
    have hSn : w1.heap.size ∉ nodes := fun h => by have := hnlt _ h; have := s1.out.size; omega
    have hpush := (pushEl_do E p1 v1 bs1 tl true false opn nodes nm wr hDr hStr hlen).mono (R' := fun e w3 => ∃ m clk, e = .returned (.tuple #[]) /\ w3.cell? ⟨w1.heap.size, 0, none⟩ = some (.string ⟨#[]⟩) /\ w3.cell? ⟨w1.heap.size, 1, none⟩ = some (.string ⟨(nb nm).toArray⟩) /\ w3.cell? ⟨w1.heap.size, 2, none⟩ = some (.slice pa ats.length ca) /\ w3.frozen? ⟨w1.heap.size, 0, none⟩ = false /\
      w3.cell? ⟨E.D, 4, none⟩ = some (.string ⟨#[]⟩) /\ w3.cell? ⟨E.D, 19, none⟩ = some (.map (some m)) /\ w3.heap[m]? = some (.map #[] clk) /\ Hid (∃ p' nodes', Dec E w3 p' v1 bs1 true false tl /\ (p'.need = nd /\ p'.tcS = tS /\ p'.tcL = tL) /\ Stk E w3 v1 p' (nm :: opn) nodes' /\ TSt E w1 v1 nodes w3 v1 nodes' /\ Beside E w3 v1 w1.heap.size /\ w1.heap.size ∉ nodes' /\ Blk w3 w1.heap.size #[.string ⟨#[]⟩, .string ⟨(nb nm).toArray⟩, .slice pa ats.length ca] 108 /\ Fr (fun x => x = E.D \/ x ∈ nodes) w1 w3)) (by
     rintro e w3 ⟨rfl, p', nodes', n1, n2, n3, h1, h2, h3, h4⟩
     obtain ⟨m, clk, m1, m2, m3, m4⟩ := h2.mp
     obtain ⟨x9, n, line, ls, off, rest, aD, _⟩ := h1.ex
     have k4 := aD.cell 4
     have k19 := aD.cell 19
     simp only [decA] at k4 k19
     rw [m1] at k19
     have hS3 := hSr.keep h3 (fun h => h.elim (fun e => hBr.no (Or.inl (Or.inl e))) hSn)
     have hsz : w1.heap.size <= wr.heap.size := ho.size
     refine ⟨m, clk, rfl, by rw [hS3.cell]; rfl, by rw [hS3.cell]; rfl, by rw [hS3.cell]; rfl, hS3.fz _, k4, k19, m2, p', nodes', h1, ⟨n1.trans nd1.1, n2.trans nd1.2.1, n3.trans nd1.2.2⟩, h2, ⟨?_, ?_⟩, hBr.fr h3, ?_, hS3, (Fr.of_old ho).trans h3 (fun x hx => Or.inl hx)⟩
     ·refine (Fr.of_old ho).trans h3 ?_
      rintro x (rfl | hx)
      ·exact Or.inl (Or.inl (Or.inl (Or.inl rfl)))
      ·exact Or.inl (Or.inr hx)
     ·rintro x (hx | hx)
      ·exact Or.inl (Or.inl hx)
      ·exact (h4 x hx).imp Or.inr (fun h => Nat.le_trans hsz h)
     ·intro h
      rcases h4 _ h with h | h
      ·exact hSn h
      ·have := hBr.lt; omega)
    clear hrowc hSr hDr hStr hBr hik hi ho hSn
    replace hO := zz hO
    go_wp2_with (first | (go_at_call 70; refine hpush.mono ?_; rintro e w3 ⟨m, clk, rfl, e0, e1, e2, f0, d4, d19, hm, k3⟩; have hDS : E.D ≠ w1.heap.size := (by obtain ⟨p', nodes', h1, n1, h2, h3, h4, h5⟩ := k3.out; exact fun e => h4.no (Or.inl (Or.inl e.symm))); have hDS2 : w1.heap.size ≠ E.D := Ne.symm hDS) | (go_at_call 71; refine (translate_el E.D w1.heap.size m clk (nb nm) w3 hx e0 e1 f0 d4 d19 hm).mono ?_; rintro e w4 ⟨rfl, n4, rfl⟩))
    obtain ⟨p3, nodes3, d3, n3, st3, ts3, b3, sn3, S3, f3⟩ := k3.out
    obtain ⟨w4, hw4⟩ : ∃ w4, w4 = (w3.drewN n4).setCell ⟨w1.heap.size, 0, none⟩ (.string ⟨#[]⟩) := ⟨_, rfl⟩
    have fS : Fr (fun x => x = w1.heap.size) w3 w4 := by rw [hw4]; exact ((Fr.refl (fun x => x = w1.heap.size) w3).drewN n4).set (Or.inl rfl) _ _
    have S4 : Blk w4 w1.heap.size #[.string ⟨#[]⟩, .string ⟨(nb nm).toArray⟩, .slice pa ats.length ca] 108 := by rw [hw4]; exact Blk.set (w := w3.drewN n4) S3 0 (.string ⟨#[]⟩)
    have d4' : Dec E w4 p3 v1 bs1 true false tl := by rw [hw4]; exact (d3.drewN n4).setB ⟨b3.lt, b3.five, b3.no⟩ 0 _
    have st4 : Stk E w4 v1 p3 (nm :: opn) nodes3 := st3.out fS (fun x hx e => sn3 (e ▸ hx)) (fun m' hm' e => by
     obtain ⟨mm, _, m1, _, m3, _⟩ := st1.out.mp
     rw [m1] at hm'
     cases hm'
     have := m3.lt
     omega)
    rw [<- hw4]
    have e0 : w4.cell? ⟨w1.heap.size, 0, none⟩ = some (.string ⟨#[]⟩) := by rw [S4.cell]; rfl
    have e1 : w4.cell? ⟨w1.heap.size, 1, none⟩ = some (.string ⟨(nb nm).toArray⟩) := by rw [S4.cell]; rfl
    have e2 : w4.cell? ⟨w1.heap.size, 2, none⟩ = some (.slice pa ats.length ca) := by rw [S4.cell]; rfl
    have hgn : ∀ k, (Value.slice pa ats.length ca).ownBlock = some k -> k ≠ E.D /\ k ∉ nodes /\ k ≠ w1.heap.size := fun k hk => by
     obtain ⟨h1, h2⟩ := ro1.out k hk
     exact ⟨fun e => h1.no (Or.inl (Or.inl e)), fun h => by have := hnlt k h; omega, by have := h1.lt; omega⟩
    have f14 : Fr (fun x => x = E.D \/ x ∈ nodes \/ x = w1.heap.size) w1 w4 := (f3.mono (fun x hx => Or.inl (hx.imp id Or.inl))).trans fS (fun x hx => Or.inl (Or.inr (Or.inr hx)))
    have row4 : w4.ownsRow 0 110 3 (.slice pa ats.length ca) ats.length (ats.flatMap At.cells) := ownsRow_frame row1.out f14 (fun k hk h => by
     obtain ⟨h1, h2, h3⟩ := hgn k hk
     rcases h with h | h | h
     ·exact h1 h
     ·exact h2 h
     ·exact h3 h)
    have hrow4 : ∀ g, pa = some ⟨g, 0, none⟩ -> ∀ i (h : i < ats.length), w4.cell? ⟨g, i * 3, none⟩ = some (.string ⟨#[]⟩) := by
     intro g hg i hi
     have := row4.cells (g := g) (by rw [hg]; rfl) _ _ (ats_cells ats i hi).1
     rw [Lib.addr_add, Nat.zero_add] at this
     exact this
    have ts4 : TSt E w v nodes w4 v1 nodes3 := (TSt.of nodes s1.out).trans ⟨ts3.fr.trans fS (fun x hx => Or.inr (by rw [hx]; exact Nat.le_refl _)), ts3.nw⟩
    have hro4 : ∀ k, (Value.slice pa ats.length ca).ownBlock = some k -> Beside E w4 v1 k /\ k ∉ nodes3 /\ w.heap.size <= k := fun k hk => by
     obtain ⟨h1, h2⟩ := ro1.out k hk
     refine ⟨h1.fr f14, fun h => ?_, h2⟩
     rcases ts3.nw k (Or.inr h) with h' | h'
     ·rcases h' with h' | h'
      ·exact h1.no h'
      ·exact (hgn k hk).2.1 h'
     ·have := h1.lt; omega
    have fin : Hid (Dec E w4 p3 v1 bs1 true false tl /\ Stk E w4 v1 p3 (nm :: opn) nodes3 /\ TSt E w v nodes w4 v1 nodes3 /\ w4.ownsRow 0 110 3 (.slice pa ats.length ca) ats.length (ats.flatMap At.cells) /\ (∀ k, (Value.slice pa ats.length ca).ownBlock = some k -> Beside E w4 v1 k /\ k ∉ nodes3 /\ w.heap.size <= k) /\ (p3.need = nd /\ p3.tcS = tS /\ p3.tcL = tL)) := zz ⟨d4', st4, ts4, row4, hro4, n3⟩
    replace hrow4 := zz hrow4
    clear k3 hw4 fS S4 d4' st4 d3 st3 ts3 b3 sn3 S3 f3 hgn f14 row4 ts4 hro4 hpush d1 s1 st1 row1 ro1 hS hBS hold0 hO hm d4 d19
    go_loopg [177] ats.length (fun k s wr => ∃ i : Nat, s = .int .i64 i /\ i + k = ats.length /\ wr = w4)
    case atStart => exact ⟨0, rfl, by omega, rfl⟩
    case round =>
     obtain ⟨i, rfl, hik, rfl⟩ := hrel
     by_cases hi : i < ats.length
     ·obtain ⟨g, rfl⟩ := hpa (by omega)
      have q0 := hrow4.out g rfl i hi
      have hI : IntKind.i64.wrap ((i : Int) + 1) = ((i + 1 : Nat) : Int) := by rw [IntWalk.i64_in _ (by omega)]; omega
      have hi2 : (i : Int) < (ats.length : Int) := by omega
      go_wp2_with (go_at_call 71; refine (translate_attr E.D g (i * 3) _ q0).mono ?_; rintro e w5 ⟨rfl, rfl⟩)
      go_roundg (gk - 1)
      case measure => omega
      case rel => exact ⟨i + 1, rfl, by omega, rfl⟩
     ·have hi2 : ¬ ((i : Int) < (ats.length : Int)) := by omega
      go_wp2
      go_ret2
      exact ⟨_, rfl, ⟨v1, p3, bs1, nodes3, fin.out⟩⟩)
end
section
open Go.RowKit
inductive Item where
 | st (nm : List Nat) (ats : List At) (ws : List UInt8) (emp : Bool)
 | en (nm : List Nat) (ws : List UInt8)
 | tx (els : List El) (rs : List Nat)
 | cd (els : List El) (rs : List Nat)
 | cm (d : List UInt8)
 | pi (nm : List Nat) (ws d : List UInt8)
def Item.src : Item -> List UInt8
 | .st nm ats ws emp => 60 :: (nb nm ++ (ats.flatMap At.src ++ (ws ++ endSrc emp [])))
 | .en nm ws => 60 :: 47 :: (nb nm ++ (ws ++ [62]))
 | .tx els _ => srcs els
 | .cd els _ => 60 :: 33 :: 91 :: 67 :: 68 :: 65 :: 84 :: 65 :: 91 :: (srcs els ++ [62])
 | .cm d => 60 :: 33 :: 45 :: 45 :: (d ++ [45, 45, 62])
 | .pi nm ws d => 60 :: 63 :: (nb nm ++ (ws ++ (d ++ [63, 62])))
def srcI (l : List Item) : List UInt8 := l.flatMap Item.src
theorem srcI_cons (i : Item) (l : List Item) : srcI (i :: l) = i.src ++ srcI l := rfl
inductive Tk where
 | st (nm : List Nat) (ats : List (List Nat × List Nat))
 | en (nm : List Nat)
 | tx (rs : List Nat)
 | cm (d : List UInt8)
 | pi (nm : List Nat) (d : List UInt8)
def At.kv (a : At) : List Nat × List Nat := (a.nm, a.rs)
def Item.toks : Item -> List Tk
 | .st nm ats _ emp => .st nm (ats.map At.kv) :: (if emp then [.en nm] else [])
 | .en nm _ => [.en nm]
 | .tx _ rs => [.tx rs]
 | .cd _ rs => [.tx rs]
 | .cm d => [.cm d]
 | .pi nm _ d => [.pi nm d]
def toksI (l : List Item) : List Tk := l.flatMap Item.toks
def Item.isTx : Item -> Bool
 | .tx _ _ => true
 | _ => false
def Item.ok : Item -> Prop
 | .st nm ats ws _ => NameOk nm /\ (nb nm == [120, 109, 108, 110, 115]) = false /\ (∀ a ∈ ats, a.ok /\ a.ws0 ≠ [] /\ (nb a.nm == [120, 109, 108, 110, 115]) = false) /\ ∀ b ∈ ws, isWs b = true
 | .en nm ws => NameOk nm /\ (nb nm == [120, 109, 108, 110, 115]) = false /\ ∀ b ∈ ws, isWs b = true
 | .tx els rs => elsOk [60, 38] true true 0 0 els /\ els ≠ [] /\ elsOut 0 els = nb rs /\ ∀ r ∈ rs, isCh r = true
 | .cd els rs => elsOk [] true false 0 0 els /\ elsEnd 0 0 els = (93, 93) /\ elsOut 0 els = nb rs ++ [93, 93] /\ ∀ r ∈ rs, isCh r = true
 | .cm d => pathCM 0 0 (d ++ [45, 45, 62])
 | .pi nm ws d => NameOk nm /\ (∀ b ∈ ws, isWs b = true) /\ (d = [] \/ ws ≠ []) /\ (∀ c t, d = c :: t -> isWs c = false) /\ pathPI 0 (d ++ [63, 62]) /\ nb nm ≠ [120, 109, 108]
def docOk : List (List Nat) -> List Item -> Prop
 | opn, [] => opn = []
 | opn, i :: l => i.ok /\ (i.isTx = true -> ∀ j m, l = j :: m -> j.isTx = false) /\
  match i with
  | .st nm _ _ emp => docOk (if emp then opn else nm :: opn) l
  | .en nm _ => ∃ opn', opn = nm :: opn' /\ docOk opn' l
  | _ => docOk opn l
def TkV (w : World) (t : Value) : Tk -> Prop
 | .st nm kv => ∃ (ats : List At) (pa : Option Addr) (ca : Nat), kv = ats.map At.kv /\ t = .iface 108 (.agg #[.string ⟨#[]⟩, .string (nameB nm), .slice pa ats.length ca]) /\ w.ownsRow 0 110 3 (.slice pa ats.length ca) ats.length (ats.flatMap At.cells) /\ ats.length <= 549755813888
 | .en nm => t = .iface 112 (.agg #[.string ⟨#[]⟩, .string (nameB nm)])
 | .tx rs => ∃ (g cap : Nat), t = .iface 113 (.slice (some ⟨g, 0, none⟩) (nb rs).length cap) /\ Lies w g 0 (nb rs)
 | .cm d => ∃ (g cap : Nat), t = .iface 114 (.slice (some ⟨g, 0, none⟩) d.length cap) /\ Lies w g 0 d
 | .pi nm d => ∃ (g cap : Nat), t = .iface 116 (.agg #[.string (nameB nm), .slice (some ⟨g, 0, none⟩) d.length cap]) /\ Lies w g 0 d
structure DSt (E : Dx) (w : World) (v : Value) (nodes : List Nat) (pend : Option (List Nat)) (items : List Item) : Prop where
 ex : ∃ (p : Pa) (bs : List UInt8) (opn : List (List Nat)) (eo : Bool), Dec E w p v bs true eo (srcI items) /\ (eo = true -> items = []) /\ docOk opn items /\ opn.length + (srcI items).length <= 549755813888 /\
  match pend with
  | none => p.need = false /\ Stk E w v p opn nodes
  | some nm => p.need = true /\ p.tcS = ⟨#[]⟩ /\ p.tcL = nameB nm /\ (nb nm == [120, 109, 108, 110, 115]) = false /\ eo = false /\ Stk E w v p (nm :: opn) nodes
def toksP (pend : Option (List Nat)) (items : List Item) : List Tk := (match pend with | none => [] | some nm => [.en nm]) ++ toksI items
theorem head_lt {i : Item} (h : i.isTx = false) : ∃ t, i.src = 60 :: t := by
 cases i with
 | tx els rs => cases h
 | st nm ats ws emp => exact ⟨_, rfl⟩
 | en nm ws => exact ⟨_, rfl⟩
 | cd els rs => exact ⟨_, rfl⟩
 | cm d => exact ⟨_, rfl⟩
 | pi nm ws d => exact ⟨_, rfl⟩
def StepP (E : Dx) (w : World) (v : Value) (nodes : List Nat) (tk : Tk) (rest : List Tk) (t : Value) (w' : World) : Prop :=
 ∃ v' nodes' pend' items', DSt E w' v' nodes' pend' items' /\ toksP pend' items' = rest /\ TSt E w v nodes w' v' nodes' /\ TkV w' t tk
theorem step_pend (E : Dx) (w : World) (v : Value) (nodes : List Nat) (nm : List Nat) (items : List Item) (h : DSt E w v nodes (some nm) items) :
  Calls Tryz.prog 38 #[.pointer (some ⟨E.D, 0, none⟩)] w fun e w' => ∃ t, e = .returned (.tuple #[t, .nilIface]) /\ StepP E w v nodes (.en nm) (toksI items) t w' := by
 obtain ⟨p, bs, opn, eo, hd, he, hdoc, hlen, hn, hS, hL, hx, rfl, hk⟩ := h.ex
 have hr := rawToken_need E p v bs (srcI items) w hn hd
 rw [hS, hL] at hr
 refine (token_close_in E p v bs (srcI items) (srcI items) opn nodes nm w hx (by omega) hd hk (hr.mono ?_)).mono ?_
 ·rintro e w' ⟨rfl, h1, h2⟩
  exact ⟨v, p.off, bs, rfl, h1, h2, rfl, rfl, rfl, rfl⟩
 ·rintro e w' ⟨v', p', bs', nodes', rfl, h1, h2, h3, h4⟩
  exact ⟨_, rfl, v', nodes', none, items, ⟨p', bs', opn, false, h1, (fun h => absurd h (by decide)), hdoc, hlen, h3, h2⟩, rfl, h4, rfl⟩
theorem step_plain {E : Dx} {w : World} {v : Value} {nodes : List Nat} {p : Pa} {bs : List UInt8} {opn : List (List Nat)} {items : List Item} {strm : List UInt8} (tk : Tk) (ty : TypeId) (hty : ty = 113 \/ ty = 114 \/ ty = 116) (hd : Dec E w p v bs true false strm) (hp : p.need = false) (hk : Stk E w v p opn nodes) (hdoc : docOk opn items) (hlen : opn.length + (srcI items).length <= 549755813888)
  (hraw : Calls Tryz.prog 66 #[.pointer (some ⟨E.D, 0, none⟩)] w fun e w' => ∃ x v' bs' eo, e = .returned (.tuple #[.iface ty x, .nilIface]) /\ Dec E w' p v' bs' true eo (srcI items) /\ (eo = true -> items = []) /\ St E w v w' v' /\ TkV w' (.iface ty x) tk) :
  Calls Tryz.prog 38 #[.pointer (some ⟨E.D, 0, none⟩)] w fun e w' => ∃ t, e = .returned (.tuple #[t, .nilIface]) /\ StepP E w v nodes tk (toksI items) t w' := by
 refine (token_plain E p v bs strm true false opn nodes w ty (fun x w' => StepP E w v nodes tk (toksI items) (.iface ty x) w') hty hd hk (hraw.mono ?_)).mono ?_
 ·rintro e w' ⟨x, v', bs', eo, rfl, h1, h2, h3, h4⟩
  exact ⟨x, rfl, h1.cells.2.2.2, v', nodes, none, items, ⟨p, bs', opn, eo, h1, h2, hdoc, hlen, hp, hk.step h3⟩, rfl, TSt.of nodes h3, h4⟩
 ·rintro e w' ⟨x, rfl, h⟩
  exact ⟨_, rfl, h⟩
theorem at_len {ats : List At} {a : At} (h : a ∈ ats) : a.src.length <= (ats.flatMap At.src).length := by
 induction ats with
 | nil => cases h
 | cons b ats ih =>
  rw [List.flatMap_cons, List.length_append]
  rcases List.mem_cons.1 h with rfl | h
  ·omega
  ·have := ih h; omega
theorem at_count (ats : List At) : ats.length <= (ats.flatMap At.src).length := by
 induction ats with
 | nil => simp
 | cons b ats ih =>
  rw [List.flatMap_cons, List.length_append, List.length_cons]
  have : 1 <= b.src.length := by simp [At.src]; omega
  omega
end
end Go.Proofs.YtepbbahdhhjibaaGreatDoor
