/- The laws' small functions of texts walked: begins, ends, holds, small. Conditions: texts of at most 2^46 bytes. -/
import Derived.Test.YtfekhbnefogkdaaGreatDoorSpecA
import Derived.Test.YtfekhbnefogkdaaGreatDoorLow
set_option maxRecDepth 100000
set_option linter.unusedVariables false
set_option linter.unusedSimpArgs false
namespace Go.Proofs.YtfekhbnefogkdaaGreatDoor
open Go.RowKit
attribute [local go_sem] B_extract B_toList B_append

theorem c_begins (s p : Str) (w : World) (hs : s.length <= 70368744177664) (hp : p.length <= 70368744177664) :
  Calls Tryz.prog 25 #[.string (B s), .string (B p)] w fun e w' => e = .returned (.bool (startsL s p)) /\ w = w' := by
 obtain ⟨R, hR⟩ : ∃ R, R = startsL s p := ⟨_, rfl⟩
 rw [<- hR]
 by_cases h : p.length <= s.length
 ·have HR : Hid (R = (s.take p.length == p)) := by
   show _ = _
   rw [hR]
   unfold startsL
   rw [isPrefixOf_take h]
   cases he : (s.take p.length == p) with
   | true => simpa using he
   | false => simpa using he
  clear hR
  go_enter Tryz.func25, Tryz.ntmps25
  go_wp2_with fail
  go_ret
  exact ⟨ret_bool HR.out.symm, rfl⟩
 ·have HR : Hid (R = false) := by show _ = _; rw [hR]; exact isPrefixOf_short (by omega)
  clear hR
  go_enter Tryz.func25, Tryz.ntmps25
  go_wp2_with fail
  go_ret
  exact ⟨ret_bool HR.out.symm, rfl⟩

set_option maxHeartbeats 1000000 in
theorem c_lholds (l sub : Str) (w : World) (hl : l.length <= 70368744177664) (hs : sub.length <= 70368744177664) :
  Calls Tryz.prog 41 #[.string (B l), .string (B sub)] w fun e w' => e = .returned (.bool (holdsL l sub)) /\ w = w' := by
 go_enter Tryz.func41, Tryz.ntmps41
 go_wp2
 go_loop [5] (fun i => ∃ k : Nat, k <= l.length /\ i = .int .i64 k /\ Hid (holdsL l sub = (idx? sub (l.drop k)).isSome)) (fun i => l.length + 1 - (intOf i).toNat)
 case atStart => exact ⟨0, Nat.zero_le _, rfl, rfl⟩
 case round =>
  obtain ⟨k, hk, rfl, hall⟩ := hrel
  by_cases hfit : k + sub.length <= l.length
  ·cases he : ((l.drop k).take sub.length == sub) with
   | true =>
    have HM := Lib.hid (holds_hit (s := l) (p := sub) (k := k) (by simpa using he))
    have h2 : ((l.drop k).take (k + sub.length - k) == sub) = true := by rw [Nat.add_sub_cancel_left]; exact he
    go_wp2_with fail
    go_ret
    exact ⟨ret_bool (by rw [hall.out, HM.out]), rfl⟩
   | false =>
    have h2 : ((l.drop k).take (k + sub.length - k) == sub) = false := by rw [Nat.add_sub_cancel_left]; exact he
    have hne : (l.drop k).take sub.length ≠ sub := by simpa using he
    have hkl : k < l.length := by
     rcases Nat.lt_or_ge k l.length with h | h
     ·exact h
     ·exfalso; apply hne
      have : sub = [] := List.length_eq_zero_iff.1 (by omega)
      subst this; simp
    have hp : sub.isPrefixOf (l.drop k) = false := by rw [isPrefixOf_take (by simp; omega)]; simpa using hne
    have HM : Hid ((idx? sub (l.drop k)).isSome = (idx? sub (l.drop (k + 1))).isSome) := by
     show _ = _
     rw [idx?_miss hkl hp]
     cases idx? sub (l.drop (k + 1)) <;> rfl
    clear hp hne
    go_wp2_with fail
    go_round
    case rel => exact ⟨k + 1, by omega, by go_num, by show _ = _; rw [hall.out, HM.out]⟩
    case measure => simp [intOf]; omega
  ·have HM : Hid (idx? sub (l.drop k) = none) := idx?_short (by simp; omega)
   go_wp2_with fail
   go_ret
   exact ⟨ret_bool (by rw [hall.out, HM.out]; rfl), rfl⟩

def endsL (s p : Str) : Bool := decide (p.length <= s.length) && (s.drop (s.length - p.length) == p)
theorem c_ends (s p : Str) (w : World) (hs : s.length <= 70368744177664) (hp : p.length <= 70368744177664) :
  Calls Tryz.prog 24 #[.string (B s), .string (B p)] w fun e w' => e = .returned (.bool (endsL s p)) /\ w = w' := by
 by_cases h : p.length <= s.length
 ·have HR : Hid (endsL s p = (s.drop (s.length - p.length) == p)) := by show _ = _; unfold endsL; rw [decide_eq_true h]; rfl
  have h1 : (p.length : Int) <= (s.length : Int) := by omega
  have h2 : (s.length : Int) - (p.length : Int) = ((s.length - p.length : Nat) : Int) := by omega
  have h3 : (0 : Int) <= (s.length : Int) - (p.length : Int) := by omega
  have h4 : (s.length : Int) - (p.length : Int) <= (s.length : Int) := by omega
  go_enter Tryz.func24, Tryz.ntmps24
  go_wp2_with fail
  go_ret
  exact ⟨ret_bool (by rw [HR.out]; try (rw [List.take_of_length_le (by rw [List.length_drop]; omega)])), rfl⟩
 ·have HR : Hid (endsL s p = false) := by show _ = _; unfold endsL; rw [decide_eq_false h]; rfl
  go_enter Tryz.func24, Tryz.ntmps24
  go_wp2_with fail
  go_ret
  exact ⟨ret_bool HR.out.symm, rfl⟩

set_option maxHeartbeats 1000000 in
theorem c_small (l : Str) (w : World) (hl : l.length <= 70368744177664) :
  Calls Tryz.prog 42 #[.string (B l)] w fun e w' => e = .returned (.string (B (Lib.toLowerA l))) /\ Below w.heap.size w w' := by
 have hconv := Lib.run_convert_string_bytes (P := Tryz.prog) w 9 76 5 (B l) Tryz.underlying9 Tryz.underlying76 Tryz.underlying5
 rw [B_size] at hconv
 have hm := BytesAt.made w l
 have hb := Below_made w l
 generalize Lib.bytesWorld w 5 (B l) = w1 at hconv hm hb
 generalize grownCap w l.length 0 5 = cap at hconv
 go_enter Tryz.func42, Tryz.ntmps42
 go_wp2
 go_loopw [9] (fun s4 wr => ∃ k : Nat, k <= l.length /\ s4 = .int .i64 k /\ BytesAt wr w.heap.size (lowTo l k) /\ Below w.heap.size w wr) (fun s4 _ => l.length - (intOf s4).toNat)
 case atStart => exact ⟨0, Nat.zero_le _, rfl, by simpa [lowTo, Lib.toLowerA] using hm, hb⟩
 case round =>
  clear hm hb hconv
  obtain ⟨k, hk, rfl, hm, hb⟩ := hrel
  have hlen := lowTo_len l k
  by_cases hlt : k < l.length
  ·have hcell := hm.cell (j := k) (by omega)
   have hfree := hm.free (j := k) (by omega)
   rw [lowTo_get l k hlt] at hcell
   have hset := hm.set (j := k) (by omega) (Lib.lowerB l[k])
   rw [lowTo_set l k hlt, Lib.lowerB] at hset
   have hbel := hb.setCell (p := ⟨w.heap.size, k, none⟩) (Nat.le_refl _)
   have hu := upper_of l[k]
   have hsame := lowTo_same l k hlt
   have hup : Lib.isUpperB l[k] = true -> ((Lib.lowerB l[k]).toNat : Int) = (l[k].toNat : Int) + 32 := Lib.lowerB_int _
   generalize hc : l[k] = c at hcell hset hu hsame hup
   have hc256 := c.toNat_lt
   by_cases h1 : 65 <= (c.toNat : Int)
   ·by_cases h2 : (c.toNat : Int) <= 90
    ·rw [hu, decide_eq_true ⟨h1, h2⟩, if_pos rfl] at hset
     have hup' := hup (by rw [hu]; exact decide_eq_true ⟨h1, h2⟩)
     rw [Lib.lowerB, hu, decide_eq_true ⟨h1, h2⟩, if_pos rfl] at hup'
     rw [hup'] at hset
     have HS := Lib.hid hset
     have HB := Lib.hid (hbel (.int .u8 ((c.toNat : Int) + 32)))
     clear hsame hu hup hup' hset hbel hm hb hc
     go_wp2
     go_roundw
     case rel => exact ⟨k + 1, by omega, by go_num, HS.out, HB.out⟩
     case measure => simp [intOf]; omega
    ·have HM := Lib.hid (hsame (by rw [hu, decide_eq_false]; omega))
     clear hsame hu hup hset hbel hc
     go_wp2
     go_roundw
     case rel => exact ⟨k + 1, by omega, by go_num, by rw [<- HM.out]; exact hm, hb⟩
     case measure => simp [intOf]; omega
   ·have HM := Lib.hid (hsame (by rw [hu, decide_eq_false]; omega))
    clear hsame hu hup hset hbel hc
    go_wp2
    go_roundw
    case rel => exact ⟨k + 1, by omega, by go_num, by rw [<- HM.out]; exact hm, hb⟩
    case measure => simp [intOf]; omega
  ·have hk' : k = l.length := by omega
   have e : lowTo l k = Lib.toLowerA l := by rw [hk']; simp [lowTo]
   rw [e] at hm
   have hl' : (Lib.toLowerA l).length = l.length := by simp [Lib.toLowerA]
   have hconv := hm.run cap
   rw [hl'] at hconv
   clear e hk' hlen hl'
   go_wp2
   go_ret
   exact ⟨rfl, hb⟩

end Go.Proofs.YtfekhbnefogkdaaGreatDoor
