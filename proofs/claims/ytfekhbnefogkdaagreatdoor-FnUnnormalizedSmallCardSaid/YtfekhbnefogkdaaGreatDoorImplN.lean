/- impl.Normalize walked: a text of ASCII in its normal form. Conditions: a text of ASCII of at most 2^46 bytes. -/
import Derived.Test.YtfekhbnefogkdaaGreatDoorLow
set_option maxRecDepth 100000
set_option linter.unusedVariables false
set_option linter.unusedSimpArgs false
namespace Go.Proofs.YtfekhbnefogkdaaGreatDoor
open Go.RowKit
attribute [local go_sem] B_extract B_toList B_append

theorem c_implNormalize (l : Str) (w : World) (hl : l.length <= 70368744177664) (ha : asciiL l = true) :
  Calls Tryz.prog 21 #[.string (B l)] w fun e w' => e = .returned (.string (B (normL l))) /\ Below w.heap.size w w' := by
 go_enter Tryz.func21, Tryz.ntmps21
 go_wp2_with (go_at_call 45; refine (c_normBasic l _ hl ha).mono ?_; rintro e w' ⟨rfl, hb⟩)
 go_ret
 exact ⟨rfl, hb⟩

end Go.Proofs.YtfekhbnefogkdaaGreatDoor
