/- The laws' small functions of lists walked: listed, texts. Conditions: lists in memory. -/
import Derived.Test.YtjkecadfakjanaaGreatDoorRepF
import Derived.Test.YtjkecadfakjanaaGreatDoorRep
import Derived.Test.YtjkecadfakjanaaGreatDoorGet
import Derived.Deep.DeepCutAuto
set_option maxRecDepth 100000
set_option linter.unusedVariables false
set_option linter.unusedSimpArgs false
namespace Go.Proofs.YtjkecadfakjanaaGreatDoor
open Go.RowKit
attribute [local go_sem] B_extract B_toList B_append

set_option maxHeartbeats 1000000 in
theorem c_listed (l : List Str) (s : Str) (v : Value) (w : World) (hv : StrsAt w v l) :
  Calls Tryz.prog 22 #[v, .string (B s)] w fun e w' => e = .returned (.bool (amongL l s)) /\ w = w' := by
 obtain ⟨h0, a, cap, rfl, hc⟩ := hv
 have HC := Lib.hid hc
 clear hc
 go_enter Tryz.func22, Tryz.ntmps22
 go_wp2
 go_loop [9] (fun i => ∃ k : Nat, k <= l.length /\ i = .int .i64 k /\ Hid (amongL l s = amongL (l.drop k) s)) (fun i => l.length - (intOf i).toNat)
 case atStart => exact ⟨0, Nat.zero_le _, rfl, rfl⟩
 case round =>
  obtain ⟨k, hk, rfl, hall⟩ := hrel
  by_cases hlt : k < l.length
  ·obtain ⟨b, off, rfl, hcell⟩ := HC.out k hlt
   cases he : (l[k] == s) with
   | true =>
    have HM := Lib.hid (among_hit hlt he)
    go_wp2
    go_ret
    exact ⟨ret_bool (by rw [hall.out, HM.out]), rfl⟩
   | false =>
    have HM := Lib.hid (among_miss hlt he)
    go_wp2
    go_round
    case rel => exact ⟨k + 1, by omega, by go_num, hall.out.trans HM.out⟩
    case measure => simp [intOf]; omega
  ·have HM : Hid (amongL (l.drop k) s = false) := by show _ = _; rw [List.drop_of_length_le (by omega)]; rfl
   go_wp2
   go_ret
   exact ⟨ret_bool (by rw [hall.out, HM.out]), rfl⟩

end Go.Proofs.YtjkecadfakjanaaGreatDoor
