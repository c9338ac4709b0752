/- laws.ends walked. Conditions: texts of at most 2^46 bytes. -/
import Derived.Test.YtbnmgneaofhdiaaGreatDoorSpecA
import Derived.Test.YtbnmgneaofhdiaaGreatDoorLow
set_option maxRecDepth 100000
set_option linter.unusedVariables false
set_option linter.unusedSimpArgs false
namespace Go.Proofs.YtbnmgneaofhdiaaGreatDoor
open Go.RowKit
attribute [local go_sem] B_extract B_toList B_append

def endsL (s p : Str) : Bool := decide (p.length <= s.length) && (s.drop (s.length - p.length) == p)
theorem c_ends (s p : Str) (w : World) (hs : s.length <= 70368744177664) (hp : p.length <= 70368744177664) :
  Calls Tryz.prog 12 #[.string (B s), .string (B p)] w fun e w' => e = .returned (.bool (endsL s p)) /\ w = w' := by
 by_cases h : p.length <= s.length
 ·have HR : Hid (endsL s p = (s.drop (s.length - p.length) == p)) := by show _ = _; unfold endsL; rw [decide_eq_true h]; rfl
  have h1 : (p.length : Int) <= (s.length : Int) := by omega
  have h2 : (s.length : Int) - (p.length : Int) = ((s.length - p.length : Nat) : Int) := by omega
  have h3 : (0 : Int) <= (s.length : Int) - (p.length : Int) := by omega
  have h4 : (s.length : Int) - (p.length : Int) <= (s.length : Int) := by omega
  go_enter Tryz.func12, Tryz.ntmps12
  go_wp2_with fail
  go_ret
  exact ⟨ret_bool (by rw [HR.out]; try (rw [List.take_of_length_le (by rw [List.length_drop]; omega)])), rfl⟩
 ·have HR : Hid (endsL s p = false) := by show _ = _; unfold endsL; rw [decide_eq_false h]; rfl
  go_enter Tryz.func12, Tryz.ntmps12
  go_wp2_with fail
  go_ret
  exact ⟨ret_bool HR.out.symm, rfl⟩
theorem ends_last {s : Str} (h : endsL s [47] = false) : s.getLast? ≠ some 47 := by
 intro e
 obtain ⟨t, rfl⟩ : ∃ t, s = t ++ [47] := by
  obtain ⟨t, ht⟩ := List.getLast?_eq_some_iff.1 e
  exact ⟨t, ht⟩
 unfold endsL at h
 simp at h

end Go.Proofs.YtbnmgneaofhdiaaGreatDoor
