/- own text -/
import Derived.Deep.DeepHandedRow
import Derived.OpenVars
import Derived.Test.YtepbbahdhhjibaaGreatDoorD45
namespace Go.Proofs.YtepbbahdhhjibaaGreatDoor
set_option linter.unusedSimpArgs false
set_option linter.unusedVariables false
set_option maxHeartbeats 200000
set_option maxRecDepth 100000
open Go.ChangeShapes Go.WideShapes Go.ChangeAt Go.RowKit Go.Shelf Go.ChangeMaps Go.WideElems
theorem laidOutT : laidOutB Tryz.prog = true := by kernel_rfl
theorem read22 : Tryz.prog.readableRec 22 = true /\ 22 < Tryz.prog.types.size := ⟨by kernel_rfl, of_decide_eq_true (by kernel_rfl)⟩
theorem list_stays {H : Type} {enc : TypeId × Value -> H} {W W' : World} (hb : Below W.heap.size W W') {v : Value} {d : DataW H} {p : List MemPlace} {sp : Nat -> Bool} (h : DataW.Trod enc Tryz.prog W 0 (fun _ => true) true 22 v d p) (hp : ∀ x ∈ p, x.block < W.heap.size) (hs : ∀ x ∈ p, sp x.block = true) : DataW.Trod enc Tryz.prog W' 0 sp true 22 v d p := by
 obtain ⟨fuel, hf⟩ := h
 exact ⟨fuel, DataW.trod_stays (kids_book laidOutT read22.1) (book_sized read22.1) (fun h => by cases h) ⟨read22.2, book_self 22⟩ hf (fun x hx => hb.same (hp x hx)) hs⟩
theorem wit_row (os : Os) {H : Type} (enc : TypeId × Value -> H) :
  (Rows.OpenSpec.upto Rows.fnEncodeIndentSpec).preRow enc Tryz.prog Tryz.f3 Rows.fnEncodeIndentUptoRow.domain false Rows.fnEncodeIndentUptoRow.laid ((witW os).forCall (fun _ _ => 0) ⟨#[], #[.slice none 0 0, .string ⟨#[]⟩, .string ⟨#[]⟩], []⟩).memory #[.slice none 0 0, .string ⟨#[]⟩, .string ⟨#[]⟩] := by
 have hw : (DataW.whole enc Tryz.prog ((witW os).forCall (fun _ _ => 0) ⟨#[], #[.slice none 0 0, .string ⟨#[]⟩, .string ⟨#[]⟩], []⟩).memory Tryz.f3.params.toList Rows.fnEncodeIndentSpec.vars false #[Value.slice none 0 0, .string ⟨#[]⟩, .string ⟨#[]⟩].toList 8).map (fun x => (x.1, x.2.1)) =
   some ([.nil, .lit (.string []), .lit (.string [])], []) := by kernel_rfl
 obtain ⟨⟨x1, x2, x3⟩, hx, hx1⟩ := Option.map_eq_some_iff.1 hw
 simp only [Prod.mk.injEq] at hx1
 obtain ⟨rfl, rfl⟩ := hx1
 exact OpenSpec.preRow_of_cond 8 hx (by kernel_rfl) (fun k hk => by cases hk; kernel_rfl) (by kernel_rfl) (wit_met os _)
theorem indent_lifted (os : Os) (started : os.Started) (H : Type) (enc : TypeId × Value -> H) (F : Stop.Interp) :
  ReturnsInHanded {} Tryz.checked os 3 .any ((Rows.OpenSpec.upto Rows.fnEncodeIndentSpec).preRow enc Tryz.prog Tryz.f3 Rows.fnEncodeIndentUptoRow.domain false Rows.fnEncodeIndentUptoRow.laid) (((Rows.OpenSpec.upto Rows.fnEncodeIndentSpec).at F).post enc Tryz.prog Tryz.f3 false true false false) := by
 have hokw : Input.okWideB Tryz.checked.prog ((witW os).forCall (fun _ _ => 0) ⟨#[], #[.slice none 0 0, .string ⟨#[]⟩, .string ⟨#[]⟩], []⟩) 3 ⟨#[], #[.slice none 0 0, .string ⟨#[]⟩, .string ⟨#[]⟩], []⟩ = true := by kernel_rfl
 refine returnsInHanded_of_row (C := Tryz.checked) (s := Rows.OpenSpec.upto Rows.fnEncodeIndentSpec) ownT started (by kernel_rfl) Tryz.func3
  ⟨witW os, fun _ _ => 0, ⟨#[], #[.slice none 0 0, .string ⟨#[]⟩, .string ⟨#[]⟩], []⟩, witW_os os, wit_shaped os _, (Input.okWide_of_okWideB (base := 0) hokw).1, (Input.okWide_of_okWideB hokw).2, wit_row os enc, by
   simp only [Assume.holds]
   exact ⟨by simp, by simp, fun _ => Modest.zero, by simp, by simp⟩⟩ ?_
 intro W base args ds gs before hval0 hW _ hcond _ hL _ _
 have hval : ∀ (j : Nat) t v, Tryz.f3.params[j]? = some t -> args[j]? = some v -> Value.okWide Tryz.prog W .any base t v := hval0
 have hk : Rows.uptoSmall H (ds ++ gs) = true := hcond _ rfl
 have hW' := hW
 obtain ⟨p, q, hA0, hV, rfl, _, _⟩ := hW
 have hA : DataW.TrodAll enc Tryz.prog W 0 (fun _ => true) true Tryz.f3.params.toList args.toList ds p := hA0
 rw [Tryz.params3] at hA hval
 obtain ⟨v0, vs0, d0, ds0, p0, q0, hargs, rfl, rfl, h0, r0⟩ := trodAll_cons hA
 obtain ⟨v1, vs1, d1, ds1, p1, q1, rfl, rfl, rfl, h1, r1⟩ := trodAll_cons r0
 obtain ⟨v2, vs2, d2, ds2, p2, q2, rfl, rfl, rfl, h2, r2⟩ := trodAll_cons r1
 obtain ⟨rfl, rfl, rfl⟩ := trodAll_nil r2
 obtain rfl : args = #[v0, v1, v2] := by cases args; simp_all
 obtain ⟨rfl, rfl⟩ := trodVars_none hV
 obtain ⟨pa, na, ca, rfl⟩ := okWide_slice Tryz.underlying22 (hval 0 22 v0 rfl rfl)
 obtain ⟨s1, rfl, rfl, rfl, hs1⟩ := open_string Tryz.underlying9 (hval 1 9 v1 rfl rfl) h1
 obtain ⟨s2, rfl, rfl, rfl, hs2⟩ := open_string Tryz.underlying9 (hval 2 9 v2 rfl rfl) h2
 have h0' := h0
 obtain ⟨fuel0, hf0⟩ := h0
 have hbk := of_decide_eq_true hk
 simp only [List.append_nil, Rows.uptoBulkAll, Rows.uptoBulk, <- Lib.size_eq] at hbk
 have hf0' : DataW.trod enc Tryz.prog W 0 (fun _ => true) true fuel0 22 [.slice pa na ca] = some (d0, p0) := hf0
 obtain ⟨gs0, hLG, hgb⟩ := open_toks hf0' (by show Rows.uptoBulk d0 <= _; omega)
 have hgb' : gsBulk gs0 + 1 <= Rows.uptoBulk d0 := hgb
 have hP := plain_of_laid hL
 obtain ⟨a, hE⟩ := eof_of_laid hP
 have hU := utf8_of_laid hP
 have h5 : 5 <= W.heap.size := World.block_lt_of_cell? W ⟨4, 0, none⟩ (hU.2 0 (by decide)).1
 have hlt : ∀ x ∈ p0, x.block < W.heap.size := fun x hx => by simpa using hW'.lt x (by simp [hx])
 refine (indent_do W _ gs0 hLG (by omega) s1 s2 (by omega) (by omega) a hE hU h5).mono fun e W' ⟨he, hO⟩ => ?_
 subst he
 have hb : Below W.heap.size W W' := hO.out.below
 refine ⟨_, rfl, _, _, _, [], _, [], hW', trodAll_mk1 (shut_bool Tryz.underlying4 _), ⟨p0, [], list_stays hb h0' hlt (fun x hx => by simpa using hlt x hx), ⟨[], [], shut_string Tryz.underlying9 hs1, ⟨[], [], shut_string Tryz.underlying9 hs2, rfl, rfl⟩, rfl⟩, rfl⟩, rfl, hb.frame _, fun h => by cases h⟩
theorem indent_said : Rows.FnEncodeIndentUptoSaid :=
 OpenClaim.holds_of_cond 3 Tryz.f3 rfl rfl rfl rfl rfl rfl rfl ⟨rfl, rfl, rfl, rfl, rfl⟩ rfl rfl rfl rfl rfl (by kernel_rfl) Tryz.func3 (by kernel_rfl)
  (of_decide_eq_true (by kernel_rfl)) (by unfold Func.isWrapper; first | (rw [if_pos (by decide +kernel)]; kernel_rfl) | (rw [if_neg (by decide +kernel)]; exact ⟨rfl, rfl⟩))
  (fun os started H enc _ F => by rw [OpenClaim.pre_eq_preRow]; exact indent_lifted os started H enc F)
theorem fnEncodeIndent_card : Rows.FnEncodeIndentUptoCardSaid :=
 Claim7.holds_tied_plain_at .later [] _ _ _ _ indent_said (fun _ h => by cases h) (by kernel_rfl) (fun _ h => by cases h) fnEncodeIndentUpto_row_tie rfl ⟨rfl, rfl⟩ (by kernel_rfl) rfl
  (fun f fn hf hfn => by
   obtain rfl : f = 3 := Option.some.inj ((show Tryz.prog.funcNamed "xmltokens/laws.FnEncodeIndent" = some 3 by kernel_rfl).symm.trans hf) |>.symm
   obtain rfl : fn = Tryz.f3 := (Option.some.inj (Tryz.func3.symm.trans hfn)).symm
   exact ⟨by kernel_rfl, fun j t ht => by
    rw [Tryz.params3] at ht
    have hm : t ∈ [22, 9, 9] := by simpa using Array.mem_of_getElem? ht
    have hall : ([22, 9, 9].all fun u => !Tryz.prog.wantsStandIn u) = true := by kernel_rfl
    exact (show Tryz.prog.wantsStandIn t = false by simpa using List.all_eq_true.1 hall t hm)⟩)
  (by kernel_rfl)
end Go.Proofs.YtepbbahdhhjibaaGreatDoor
