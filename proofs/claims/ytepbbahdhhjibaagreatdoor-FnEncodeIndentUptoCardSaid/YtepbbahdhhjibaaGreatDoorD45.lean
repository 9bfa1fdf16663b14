/- own text -/
import Derived.Test.YtepbbahdhhjibaaGreatDoorD44
namespace Go.Proofs.YtepbbahdhhjibaaGreatDoor
set_option linter.unusedSimpArgs false
set_option linter.unusedVariables false
set_option maxHeartbeats 200000
set_option maxRecDepth 512
open Go.ChangeShapes Go.WideShapes Go.ChangeAt Go.RowKit Go.Shelf
noncomputable def baseW (os : Os) : World :=
 let w0 := World.holding Tryz.prog os ⟨#[], #[], []⟩
 { w0 with heap := w0.heap.modify 1 fun
   | .cells _ t frozen => .cells #[.iface 225 (.agg #[typeHandle Tryz.prog 70])] t frozen
   | o => o }
noncomputable def witW (os : Os) : World := (baseW os).layVars Tryz.prog plainL
theorem witW_os (os : Os) : (witW os).os = os := World.layVars_os _ _ _
theorem wit_fits (os : Os) : (baseW os).layFits Tryz.prog plainL [] = true := by kernel_rfl
theorem wit_ifaces (os : Os) : (baseW os).layIfaces Tryz.prog plainL (witW os) = true := by kernel_rfl
theorem wit_plain (os : Os) (args : Array Value) : laidMet Tryz.prog plainL ((witW os).forCall (fun _ _ => 0) ⟨#[], args, []⟩).memory := by
 have e1 : (plainL.filter fun x => (plainL.map (·.1)).contains x.1) = plainL := List.filter_eq_self.2 fun x hx => List.contains_iff_mem.2 (List.mem_map.2 ⟨x, hx, rfl⟩)
 have e2 : (plainL.filter fun x => !(plainL.map (·.1)).contains x.1) = [] := List.filter_eq_nil_iff.2 fun x hx => by rw [List.contains_iff_mem.2 (List.mem_map.2 ⟨x, hx, rfl⟩)]; simp
 have h : laidMet Tryz.prog plainL (witW os) := laidMet_layVars (w0 := baseW os) (plainL.map (·.1)) [] (by rw [e1]; rfl) (by rw [e1]; exact wit_fits os) (by rw [e1]; exact wit_ifaces os) (by rw [e2]; exact LaidIn.none)
 exact h.of_heap (by simp [World.memory, World.forCall, Input.heap])
theorem wit_met (os : Os) (args : Array Value) : laidMetH Tryz.prog Rows.fnEncodeIndentUptoRow.laid ((witW os).forCall (fun _ _ => 0) ⟨#[], args, []⟩).memory :=
 laidMetH_of_parts (by rw [filterIsNone]; exact wit_plain os args) (by kernel_rfl)
theorem wit_shaped (os : Os) (args : Array Value) : ((witW os).forCall (fun _ _ => 0) ⟨#[], args, []⟩).Shaped Tryz.prog := World.shaped_of_ZipB (by kernel_rfl) (by kernel_rfl)
end Go.Proofs.YtepbbahdhhjibaaGreatDoor
