/- The laws' comparisons words and sorts, walked at two answers of the same words, of the same sort. Conditions: none beyond that. -/
import Derived.Test.YtfekhbnefogkdaaGreatDoorTold
import Derived.Test.YtfekhbnefogkdaaGreatDoorTwice
set_option maxRecDepth 100000
set_option linter.unusedVariables false
set_option linter.unusedSimpArgs false
namespace Go.Proofs.YtfekhbnefogkdaaGreatDoor
open Go.RowKit
attribute [local go_sem] B_extract B_toList B_append

set_option maxHeartbeats 4000000 in
theorem c_words2 (T T' : ToldM) (h : SameWords T T') (vl vi vu vl' vi' vu' : Value) (w : World) :
  Calls Tryz.prog 17 #[toldVal T vl vi vu, toldVal T' vl' vi' vu'] w fun e w' => e = .returned (.bool true) /\ Below w.heap.size w w' := by
 obtain ⟨h1, h2, h3, h4, h5, h6, h7⟩ := h
 unfold toldVal
 rw [<- h1, <- h2, <- h3, <- h4, <- h5, <- h6, <- h7]
 clear h1 h2 h3 h4 h5 h6 h7
 go_enter Tryz.func17, Tryz.ntmps17
 go_wp2_with fail
 go_ret
 exact ⟨ret_bool (by simp), (Below_alloc w _).trans ((Below_alloc _ _).mono (by simp))⟩

set_option maxHeartbeats 4000000 in
theorem c_sorts2 (T T' : ToldM) (h : SameSorts T T') (vl vi vu vl' vi' vu' : Value) (w : World) :
  Calls Tryz.prog 37 #[toldVal T vl vi vu, toldVal T' vl' vi' vu'] w fun e w' => e = .returned (.bool true) /\ Below w.heap.size w w' := by
 obtain ⟨h1, h2, h3, h4, h5, h6⟩ := h
 unfold toldVal
 rw [<- h1, <- h2, <- h3, <- h4, <- h5, <- h6]
 clear h1 h2 h3 h4 h5 h6
 go_enter Tryz.func37, Tryz.ntmps37
 go_wp2_with fail
 go_ret
 exact ⟨ret_bool (by simp), (Below_alloc w _).trans ((Below_alloc _ _).mono (by simp))⟩

end Go.Proofs.YtfekhbnefogkdaaGreatDoor
