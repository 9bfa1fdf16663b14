/- own text -/
import Derived.Test.YtepbbahdhhjibaaGreatDoorC49
namespace Go.Proofs.YtepbbahdhhjibaaGreatDoor
set_option linter.unusedSimpArgs false
set_option linter.unusedVariables false
set_option maxHeartbeats 200000
set_option maxRecDepth 100000
open Go.ChangeShapes Go.WideShapes Go.ChangeAt Go.RowKit Go.Shelf Go.ChangeMaps
theorem again_lifted (os : Os) (started : os.Started) (H : Type) (enc : TypeId × Value -> H) :
  ReturnsInHanded {} Tryz.checked os 4 .any (fun w args => (Rows.fnEncodeAgainSpec.pre enc Tryz.prog Tryz.f4 Rows.fnEncodeAgainRow.domain false w args /\ laidMetH Tryz.prog Rows.fnEncodeAgainRow.laid w) /\ sizedMet enc Tryz.prog Tryz.f4 (OpenSpec.ofChange Rows.fnEncodeAgainSpec) false w args)
   (Rows.fnEncodeAgainSpec.post enc Tryz.prog Tryz.f4 false true false false) := by
 refine returnsInHanded_of_change_and (C := Tryz.checked) (X := fun w _ => laidMetH Tryz.prog Rows.fnEncodeAgainRow.laid w) (fun _ _ _ hh h => h.of_heap hh) ownT started (by kernel_rfl) Tryz.func4
  (ChangeSpec.witness_shaped (enc := enc) (C := Tryz.checked) (os := os) (X := fun w _ => laidMetH Tryz.prog Rows.fnEncodeAgainRow.laid w) false (witW os) #[.string ⟨#[]⟩] 8 (witW_os os)
   (wit_shaped os _) (by kernel_rfl) (by kernel_rfl) (by kernel_rfl) (wit_met os _)) ?_
 intro W base args ds gs before hval0 hW _ _ hL _
 have hval : ∀ (j : Nat) t v, Tryz.f4.params[j]? = some t -> args[j]? = some v -> Value.okWide Tryz.prog W .any base t v := hval0
 have hW' := hW
 obtain ⟨p, q, hA0, hV, rfl, _, _⟩ := hW
 have hA : DataW.TrodAll enc Tryz.prog W 0 (fun _ => true) true Tryz.f4.params.toList args.toList ds p := hA0
 rw [Tryz.params4] at hA hval
 obtain ⟨v0, d0, rfl, rfl, h0⟩ := trodAll_one hA
 obtain ⟨rfl, rfl⟩ := trodVars_none hV
 obtain ⟨s, rfl, rfl, rfl, hs⟩ := open_string Tryz.underlying9 (hval 0 9 v0 rfl rfl) h0
 simp only [List.append_nil] at hW'
 have hP := plain_of_laid hL
 obtain ⟨a, hE⟩ := eof_of_laid hP
 have hU := utf8_of_laid hP
 have h5 : 5 <= W.heap.size := World.block_lt_of_cell? W ⟨4, 0, none⟩ (hU.2 0 (by decide)).1
 refine (again_any s a W hE hU h5).mono fun e W' ⟨he, hb⟩ => ?_
 subst he
 exact ⟨_, rfl, _, _, _, [], [], [], hW', trodAll_mk1 (shut_bool Tryz.underlying4 _), trodAll_mk1 (shut_string Tryz.underlying9 hs), rfl, hb.frame _, fun h => by cases h⟩
theorem again_said : Rows.FnEncodeAgainSaid :=
 OpenClaim.holds_of_wide 4 Tryz.f4 rfl rfl rfl rfl rfl rfl rfl ⟨rfl, rfl, rfl, rfl, rfl⟩ rfl rfl rfl rfl rfl (by kernel_rfl) Tryz.func4 (by kernel_rfl)
  (of_decide_eq_true (by kernel_rfl)) (by unfold Func.isWrapper; first | (rw [if_pos (by decide +kernel)]; kernel_rfl) | (rw [if_neg (by decide +kernel)]; exact ⟨rfl, rfl⟩))
  (fun os started H enc _ => again_lifted os started H enc)
theorem fnEncodeAgain_card : Rows.FnEncodeAgainCardSaid :=
 Claim7.holds_tied_plain_at .later [] _ _ _ _ again_said (fun _ h => by cases h) (by kernel_rfl) (fun _ h => by cases h) fnEncodeAgain_row_tie rfl ⟨rfl, rfl⟩ (by kernel_rfl) rfl
  (fun f fn hf hfn => by
   obtain rfl : f = 4 := Option.some.inj ((show Tryz.prog.funcNamed "xmltokens/laws.FnEncodeAgain" = some 4 by kernel_rfl).symm.trans hf) |>.symm
   obtain rfl : fn = Tryz.f4 := (Option.some.inj (Tryz.func4.symm.trans hfn)).symm
   exact ⟨by kernel_rfl, fun j t ht => by
    rw [Tryz.params4] at ht
    have hm : t ∈ [9] := by simpa using Array.mem_of_getElem? ht
    have hall : ([9].all fun u => !Tryz.prog.wantsStandIn u) = true := by kernel_rfl
    exact (show Tryz.prog.wantsStandIn t = false by simpa using List.all_eq_true.1 hall t hm)⟩)
  (by kernel_rfl)
#print axioms fnEncodeAgain_card
end Go.Proofs.YtepbbahdhhjibaaGreatDoor
