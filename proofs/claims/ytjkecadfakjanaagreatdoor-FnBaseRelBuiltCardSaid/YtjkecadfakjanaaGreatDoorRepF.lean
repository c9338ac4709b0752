/- Lists of formats as they lie in memory: formatNamed, formatBeside walked. Conditions: lists of at most 2^47 entries. -/
import Derived.Test.YtjkecadfakjanaaGreatDoorRep
set_option maxRecDepth 100000
set_option linter.unusedVariables false
set_option linter.unusedSimpArgs false
namespace Go.Proofs.YtjkecadfakjanaaGreatDoor
open Go.RowKit
attribute [local go_sem] B_extract B_toList B_append

theorem named_hit {l : List (Str × Str)} {n : Str} {k : Nat} (h : k < l.length) (e : (l[k].1 == n) = true) : formatNamed (l.drop k) n = true := by
 rw [drop_cons h]; unfold formatNamed; rw [List.any_cons, e]; rfl
theorem named_miss {l : List (Str × Str)} {n : Str} {k : Nat} (h : k < l.length) (e : (l[k].1 == n) = false) : formatNamed (l.drop k) n = formatNamed (l.drop (k + 1)) n := by
 rw [drop_cons h]; unfold formatNamed; rw [List.any_cons, e]; rfl
theorem beside_hit {l : List (Str × Str)} {n x : Str} {k : Nat} (h : k < l.length) (e : (l[k].1 == n && l[k].2 == x) = true) : formatBeside (l.drop k) n x = true := by
 rw [drop_cons h]; unfold formatBeside; rw [List.any_cons, e]; rfl
theorem beside_miss {l : List (Str × Str)} {n x : Str} {k : Nat} (h : k < l.length) (e : (l[k].1 == n && l[k].2 == x) = false) : formatBeside (l.drop k) n x = formatBeside (l.drop (k + 1)) n x := by
 rw [drop_cons h]; unfold formatBeside; rw [List.any_cons, e]; rfl

set_option maxHeartbeats 1000000 in
theorem c_formatNamed (l : List (Str × Str)) (s : Str) (v : Value) (w : World) (hv : FmtsAt w v l) :
  Calls Tryz.prog 133 #[v, .string (B s)] w fun e w' => e = .returned (.bool (formatNamed l s)) /\ w = w' := by
 obtain ⟨h0, a, cap, rfl, hc⟩ := hv
 have HC := Lib.hid hc
 clear hc
 go_enter Tryz.func133, Tryz.ntmps133
 go_wp2
 go_loop [5] (fun i => ∃ k : Nat, k <= l.length /\ i = .int .i64 k /\ Hid (formatNamed l s = formatNamed (l.drop k) s)) (fun i => l.length - (intOf i).toNat)
 case atStart => exact ⟨0, Nat.zero_le _, rfl, rfl⟩
 case round =>
  obtain ⟨k, hk, rfl, hall⟩ := hrel
  by_cases hlt : k < l.length
  ·obtain ⟨b, off, rfl, hcell, _⟩ := HC.out k hlt
   cases he : (l[k].1 == s) with
   | true =>
    have HM := Lib.hid (named_hit hlt he)
    go_wp2
    go_ret
    exact ⟨ret_bool (by rw [hall.out, HM.out]), rfl⟩
   | false =>
    have HM := Lib.hid (named_miss hlt he)
    go_wp2
    go_round
    case rel => exact ⟨k + 1, by omega, by go_num, hall.out.trans HM.out⟩
    case measure => simp [intOf]; omega
  ·have HM : Hid (formatNamed (l.drop k) s = false) := by show _ = _; rw [List.drop_of_length_le (by omega)]; rfl
   go_wp2
   go_ret
   exact ⟨ret_bool (by rw [hall.out, HM.out]), rfl⟩

set_option maxHeartbeats 1000000 in
theorem c_formatBeside (l : List (Str × Str)) (s x : Str) (v : Value) (w : World) (hv : FmtsAt w v l) :
  Calls Tryz.prog 152 #[v, .string (B s), .string (B x)] w fun e w' => e = .returned (.bool (formatBeside l s x)) /\ w = w' := by
 obtain ⟨h0, a, cap, rfl, hc⟩ := hv
 have HC := Lib.hid hc
 clear hc
 go_enter Tryz.func152, Tryz.ntmps152
 go_wp2
 go_loop [7] (fun i => ∃ k : Nat, k <= l.length /\ i = .int .i64 k /\ Hid (formatBeside l s x = formatBeside (l.drop k) s x)) (fun i => l.length - (intOf i).toNat)
 case atStart => exact ⟨0, Nat.zero_le _, rfl, rfl⟩
 case round =>
  obtain ⟨k, hk, rfl, hall⟩ := hrel
  by_cases hlt : k < l.length
  ·obtain ⟨b, off, rfl, hcell, hcell2⟩ := HC.out k hlt
   cases he : (l[k].1 == s) with
   | true =>
    cases he2 : (l[k].2 == x) with
    | true =>
     have HM := Lib.hid (beside_hit (n := s) (x := x) hlt (by rw [he, he2]; rfl))
     go_wp2
     go_ret
     exact ⟨ret_bool (by rw [hall.out, HM.out]), rfl⟩
    | false =>
     have HM := Lib.hid (beside_miss (n := s) (x := x) hlt (by rw [he, he2]; rfl))
     go_wp2
     go_round
     case rel => exact ⟨k + 1, by omega, by go_num, hall.out.trans HM.out⟩
     case measure => simp [intOf]; omega
   | false =>
    have HM := Lib.hid (beside_miss (n := s) (x := x) hlt (by rw [he]; rfl))
    go_wp2
    go_round
    case rel => exact ⟨k + 1, by omega, by go_num, hall.out.trans HM.out⟩
    case measure => simp [intOf]; omega
  ·have HM : Hid (formatBeside (l.drop k) s x = false) := by show _ = _; rw [List.drop_of_length_le (by omega)]; rfl
   go_wp2
   go_ret
   exact ⟨ret_bool (by rw [hall.out, HM.out]), rfl⟩

end Go.Proofs.YtjkecadfakjanaaGreatDoor
