/- A part of the proof that the card of laws.FnMarshal holds. No conditions. -/
import Derived.Test.YtammjbmfiakbnaaGreatDoorRows
import Derived.Test.YtammjbmfiakbnaaGreatDoorM09
import Derived.LaidMore
import Derived.Stop.Joined
import Derived.Stop.LaidErr
set_option linter.unusedSimpArgs false
set_option linter.unusedVariables false
namespace Go.Proofs.YtammjbmfiakbnaaGreatDoor
open Go.ChangeShapes Go.RowKit
theorem starE : "*" ++ "errors.errorString" = "*errors.errorString" := by decide
/-- One type bears that name. -/
theorem eofRow (u : TypeId) (h : Tryz.prog.typeName? 3 u = some "*errors.errorString") : u = 196 :=
 typeName_ptr_named (nm := "errors.errorString") (by rw [starE]; kernel_rfl) (by kernel_rfl) (by decide) u (by rw [starE]; exact h)
set_option maxRecDepth 100000 in
/-- io.EOF's variable holds an error. -/
theorem eof_laid {W : World} (h : laidMetH Tryz.prog Rows.fnMarshalRow.laid W) : EofAt W := by
 have h' : laidMet Tryz.prog Rows.fnMarshalRow.laid W := h
 obtain ⟨a, s, hv, _⟩ := laid_sentinel (g := 2) (ti := 66) h'.tail.tail.tail.tail.tail.tail.tail.tail.tail.tail (by kernel_rfl) (by kernel_rfl) Tryz.underlying66 eofRow Tryz.underlying196 Tryz.underlying198 rfl rfl Tryz.underlying9 (by kernel_rfl) (by kernel_rfl)
 have hc := World.var?_cell (show Tryz.prog.globalNamed "io.EOF" = some 2 by kernel_rfl) hv 0
 have hc' : W.cell? ⟨2, 0, none⟩ = some (.iface 196 (.pointer (some a))) := by simpa using hc
 exact ⟨World.block_lt_of_cell? (a := ⟨2, 0, none⟩) W hc', a, hc'⟩
end Go.Proofs.YtammjbmfiakbnaaGreatDoor
