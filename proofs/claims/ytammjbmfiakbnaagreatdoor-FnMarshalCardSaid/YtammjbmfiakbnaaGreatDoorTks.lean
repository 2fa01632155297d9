/- A part of the proof that the card of laws.FnMarshal holds. No conditions. -/
import Derived.Test.YtammjbmfiakbnaaGreatDoorM05
set_option linter.unusedSimpArgs false
set_option linter.unusedVariables false
namespace Go.Proofs.YtammjbmfiakbnaaGreatDoor
open Go
section
variable {P : Program} {ops : Array Oper} {Q : Exit → Act → World → Prop} {md : Region.Mode} {S S' : World → Prop} {N : Nat → Bool}
theorem wpAnyK_strong (hS : ∀ w, S' w → S w) : ∀ {fuel : Nat} {listed : Array Bool} {a : Act} {w : World}, wpAnyK P md ops Q S' N fuel listed a w → wpAnyK P md ops Q S N fuel listed a w
 |0, _, _, _, h => h
 |_ + 1, _, _, _, h => ⟨h.1, fun i hi => wpOp_mono (fun _ _ h' => ⟨fun hn => hS _ (h'.1 hn), wpAnyK_strong hS h'.2⟩) (h.2 i hi)⟩
end
end Go.Proofs.YtammjbmfiakbnaaGreatDoor
