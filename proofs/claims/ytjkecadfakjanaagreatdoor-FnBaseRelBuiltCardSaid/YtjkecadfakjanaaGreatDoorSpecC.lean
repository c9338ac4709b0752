/- The reference's cutPoints walked. Conditions: a text of at most 2^30 bytes. -/
import Derived.Test.YtjkecadfakjanaaGreatDoorSpecB
set_option maxRecDepth 100000
set_option linter.unusedVariables false
set_option linter.unusedSimpArgs false
namespace Go.Proofs.YtjkecadfakjanaaGreatDoor
open Go.RowKit
attribute [local go_sem] B_extract B_toList B_append

theorem cuts_fuel (s : Str) : ∀ (n m i : Nat), s.length <= i + n -> s.length <= i + m -> cutsFrom s n i = cutsFrom s m i
 | 0, m, i, hn, hm => by
  cases m with
  | zero => rfl
  | succ m => unfold cutsFrom; rw [if_pos (by omega)]
 | n + 1, 0, i, hn, hm => by unfold cutsFrom; rw [if_pos (by omega)]
 | n + 1, m + 1, i, hn, hm => by
  unfold cutsFrom
  split
  ·rfl
  ·split
   ·exact cuts_fuel s n m (i + 1) (by omega) (by omega)
   ·split
    ·rw [cuts_fuel s n m (i + 1) (by omega) (by omega)]
    ·split
     ·rename_i k hk
      have := (wrapEnd_spec _ _ hk).1
      rw [cuts_fuel s n m (k + 1) (by omega) (by omega)]
     ·rw [cuts_fuel s n m (i + 1) (by omega) (by omega)]
def cutsL (s : Str) (i : Nat) : List Nat := cutsFrom s (s.length - i) i
def endC (s : Str) (i : Nat) : Option Nat := wrapEnd s (s.length - (i + 2)) (i + 2)
theorem cutsL_end {s : Str} {i : Nat} (h : s.length <= i) : cutsL s i = [] := by
 unfold cutsL
 rw [show s.length - i = 0 by omega]; rfl
theorem cutsL_no {s : Str} {i : Nat} (h : i < s.length) (hd : s[i]? ≠ some 46) : cutsL s i = cutsL s (i + 1) := by
 unfold cutsL
 rw [show s.length - i = (s.length - (i + 1)) + 1 by omega, cutsFrom, if_neg (by omega), if_pos hd]
theorem cutsL_dot {s : Str} {i : Nat} (h : i < s.length) (hd : s[i]? = some 46) (hn : s[i + 1]? ≠ some 95 \/ endC s i = none) : cutsL s i = i :: cutsL s (i + 1) := by
 unfold cutsL
 rw [show s.length - i = (s.length - (i + 1)) + 1 by omega, cutsFrom, if_neg (by omega), if_neg (by simpa using hd)]
 by_cases h95 : s[i + 1]? = some 95
 ·rw [if_neg (by simpa using h95)]
  rcases hn with hn | hn
  ·exact absurd h95 hn
  ·unfold endC at hn; rw [hn]
 ·rw [if_pos h95]
theorem cutsL_wrap {s : Str} {i k : Nat} (h : i < s.length) (hd : s[i]? = some 46) (h95 : s[i + 1]? = some 95) (hk : endC s i = some k) : cutsL s i = i :: cutsL s (k + 1) := by
 have hk2 := (wrapEnd_spec _ _ hk).1
 unfold cutsL
 rw [show s.length - i = (s.length - (i + 1)) + 1 by omega, cutsFrom, if_neg (by omega), if_neg (by simpa using hd), if_neg (by simpa using h95)]
 unfold endC at hk
 rw [hk]
 show i :: cutsFrom s (s.length - (i + 1)) (k + 1) = _
 rw [cuts_fuel s (s.length - (i + 1)) (s.length - (k + 1)) (k + 1) (by omega) (by omega)]
theorem endC_step {s : Str} {j : Nat} (h : j < s.length) : wrapEnd s (s.length - j) j = if s[j]? = some 95 /\ (s.length = j + 1 \/ s[j + 1]? = some 46) then some j else wrapEnd s (s.length - (j + 1)) (j + 1) := by
 rw [show s.length - j = (s.length - (j + 1)) + 1 by omega, wrapEnd]

set_option maxHeartbeats 8000000 in
theorem c_cutPoints (s : Str) (w : World) (hs : s.length <= 1000000000) :
  Calls Tryz.prog 107 #[.string (B s)] w fun e w' => ∃ v, e = .returned v /\ OwnN w' w.heap.size v (cutPoints s) /\ Below w.heap.size w w' := by
 have hO := Lib.hid (OwnN.nil w)
 have hL2 : Hid (cutPoints s = cutsL s 0) := rfl
 generalize cutPoints s = CP at hL2 |-
 go_enter Tryz.func107, Tryz.ntmps107
 go_wp2_with fail
 go_loopw [3, 4] (fun s3 s4 wr => ∃ (n : Nat) (L : List Nat), n <= s.length /\ L.length <= n /\ s4 = .int .i64 n /\ OwnN wr w.heap.size s3 L /\ Below w.heap.size w wr /\ Hid (CP = L ++ cutsL s n)) (fun _ s4 _ => s.length - (intOf s4).toNat)
 case atStart => exact ⟨0, [], Nat.zero_le _, Nat.zero_le _, rfl, hO.out, Below.refl _ _, hL2.out⟩
 case round =>
  obtain ⟨n, L, hn, hLn, rfl, hown, hbel, hsk⟩ := hrel
  replace hown := Lib.hid hown
  replace hbel := Lib.hid hbel
  by_cases hlt : n < s.length
  ·by_cases hd : s[n]? = some 46
   ·have b1 := byte_yes hlt 46 46 rfl hd
    have hap : Hid (∀ o, OwnN (wr.alloc o) w.heap.size u3 L) := fun o => hown.out.alloc o
    have hba : Hid (∀ o, Below w.heap.size w (wr.alloc o)) := fun o => hbel.out.alloc hbel.out.size o
    have hll : L.length <= 1000000000000 := by omega
    by_cases h1 : n + 1 < s.length
    ·have h1n : ((n : Int) + 1 == (s.length : Int)) = false := by rw [beq_eq_false_iff_ne]; omega
     by_cases h95 : s[n + 1]? = some 95
     ·have b2 := byte_yes h1 95 95 rfl h95
      have b2' : ((((B s)[n + 1]'(by rw [B_size]; exact h1)).toNat : Int) != 95) = false := by rw [b2]; rfl
      cases he : endC s n with
      | none =>
       have hD := Lib.hid (cutsL_dot hlt hd (.inr he))
       replace he := Lib.hid he
       clear hd h95
       go_wp2_with (at_builtin; refine wpList_appN rfl (.tmp 16) (.tmp 18) rfl _ _ _ n rfl (hap.out _) wr.heap.size rfl ?c1 hll ?_)
       case c1 => exact cell_blk (blk_new _ _) 0
       intro v' w1 hown4 hb4
       replace hown4 := Lib.hid hown4
       replace hb4 := Lib.hid ((hba.out _).trans hb4)
       go_wp2_with fail
       go_loopw [4, 5] (fun s4 s5 wi => ∃ j : Nat, n + 2 <= j /\ j <= s.length /\ s4 = .int .i64 n /\ s5 = .int .i64 j /\ w1 = wi /\ Hid (endC s n = wrapEnd s (s.length - j) j)) (fun _ s5 _ => s.length - (intOf s5).toNat)
       case atStart => exact ⟨n + 2, Nat.le_refl _, by omega, rfl, by go_num, rfl, rfl⟩
       case round =>
        obtain ⟨j, hj2, hj, rfl, rfl, rfl, hend⟩ := hrel
        by_cases hjl : j < s.length
        ·have hst := Lib.hid (endC_step hjl)
         by_cases d2 : s[j]? = some 95
         ·have f2 := byte_yes hjl 95 95 rfl d2
          by_cases d3 : s.length = j + 1
          ·have hend2 : Hid (endC s n = some j) := by show _ = _; rw [hend.out, hst.out, if_pos ⟨d2, .inl d3⟩]
           exact absurd (hend2.out.symm.trans he.out) (by simp)
          ·have hj1 : j + 1 < s.length := by omega
           have f3 : ((j : Int) + 1 == (s.length : Int)) = false := by rw [beq_eq_false_iff_ne]; omega
           by_cases d4 : s[j + 1]? = some 46
           ·have hend2 : Hid (endC s n = some j) := by show _ = _; rw [hend.out, hst.out, if_pos ⟨d2, .inr d4⟩]
            exact absurd (hend2.out.symm.trans he.out) (by simp)
           ·have f4 := byte_no hj1 46 46 rfl d4
            have hend2 : Hid (endC s n = wrapEnd s (s.length - (j + 1)) (j + 1)) := by show _ = _; rw [hend.out, hst.out, if_neg (by intro h; rcases h.2 with h | h; exact d3 h; exact d4 h)]
            clear d2 d3 d4
            go_wp2_with fail
            go_roundw
            case rel => exact ⟨j + 1, by omega, by omega, (by first | rfl | trivial), by go_num, (by first | rfl | trivial), hend2.out⟩
            case measure => (simp [intOf]; try omega)
         ·have f2 := byte_no hjl 95 95 rfl d2
          have hend2 : Hid (endC s n = wrapEnd s (s.length - (j + 1)) (j + 1)) := by show _ = _; rw [hend.out, hst.out, if_neg (fun h => d2 h.1)]
          clear d2
          go_wp2_with fail
          go_roundw
          case rel => exact ⟨j + 1, by omega, by omega, (by first | rfl | trivial), by go_num, (by first | rfl | trivial), hend2.out⟩
          case measure => (simp [intOf]; try omega)
        ·go_wp2_with fail
         go_roundw
         case rel =>
          have R : n + 1 <= s.length /\ (L ++ [n]).length <= n + 1 /\ Value.int .i64 ((n : Int) + 1) = .int .i64 ((n + 1 : Nat) : Int) /\ OwnN w1 w.heap.size v' (L ++ [n]) /\ Below w.heap.size w w1 /\ Hid (CP = (L ++ [n]) ++ cutsL s (n + 1)) := ⟨hlt, by rw [List.length_append, List.length_singleton]; omega, by go_num, hown4.out, hb4.out, by show _ = _; rw [hsk.out, hD.out, List.append_assoc]; rfl⟩
          first | exact ⟨n + 1, L ++ [n], R⟩ | ((repeat apply Exists.intro); exact ⟨⟨n + 1, L ++ [n], R⟩, rfl⟩)
         case measure => (simp [intOf]; try omega)
      | some k =>
       have hk2 := (wrapEnd_spec _ _ he).1
       have hD := Lib.hid (cutsL_wrap hlt hd h95 he)
       replace he := Lib.hid he
       clear hd h95
       go_wp2_with (at_builtin; refine wpList_appN rfl (.tmp 16) (.tmp 18) rfl _ _ _ n rfl (hap.out _) wr.heap.size rfl ?c1 hll ?_)
       case c1 => exact cell_blk (blk_new _ _) 0
       intro v' w1 hown4 hb4
       replace hown4 := Lib.hid hown4
       replace hb4 := Lib.hid ((hba.out _).trans hb4)
       go_wp2_with fail
       go_loopw [4, 5] (fun s4 s5 wi => ∃ j : Nat, n + 2 <= j /\ j <= s.length /\ s4 = .int .i64 n /\ s5 = .int .i64 j /\ w1 = wi /\ Hid (endC s n = wrapEnd s (s.length - j) j)) (fun _ s5 _ => s.length - (intOf s5).toNat)
       case atStart => exact ⟨n + 2, Nat.le_refl _, by omega, rfl, by go_num, rfl, rfl⟩
       case round =>
        obtain ⟨j, hj2, hj, rfl, rfl, rfl, hend⟩ := hrel
        by_cases hjl : j < s.length
        ·have hst := Lib.hid (endC_step hjl)
         by_cases d2 : s[j]? = some 95
         ·have f2 := byte_yes hjl 95 95 rfl d2
          by_cases d3 : s.length = j + 1
          ·have f3 : ((j : Int) + 1 == (s.length : Int)) = true := by rw [beq_iff_eq]; omega
           have hend2 : Hid (endC s n = some j) := by show _ = _; rw [hend.out, hst.out, if_pos ⟨d2, .inl d3⟩]
           obtain rfl : j = k := Option.some.inj (hend2.out.symm.trans he.out)
           clear d2 d3
           go_wp2_with fail
           go_roundw
           case rel =>
            have R : j + 1 <= s.length /\ (L ++ [n]).length <= j + 1 /\ Value.int .i64 ((j : Int) + 1) = .int .i64 ((j + 1 : Nat) : Int) /\ OwnN w1 w.heap.size v' (L ++ [n]) /\ Below w.heap.size w w1 /\ Hid (CP = (L ++ [n]) ++ cutsL s (j + 1)) := ⟨hjl, by rw [List.length_append, List.length_singleton]; omega, by go_num, hown4.out, hb4.out, by show _ = _; rw [hsk.out, hD.out, List.append_assoc]; rfl⟩
            first | exact ⟨j + 1, L ++ [n], R⟩ | ((repeat apply Exists.intro); exact ⟨⟨j + 1, L ++ [n], R⟩, rfl⟩)
           case measure => (simp [intOf]; try omega)
          ·have hj1 : j + 1 < s.length := by omega
           have f3 : ((j : Int) + 1 == (s.length : Int)) = false := by rw [beq_eq_false_iff_ne]; omega
           by_cases d4 : s[j + 1]? = some 46
           ·have f4 := byte_yes hj1 46 46 rfl d4
            have hend2 : Hid (endC s n = some j) := by show _ = _; rw [hend.out, hst.out, if_pos ⟨d2, .inr d4⟩]
            obtain rfl : j = k := Option.some.inj (hend2.out.symm.trans he.out)
            clear d2 d3 d4
            go_wp2_with fail
            go_roundw
            case rel =>
             have R : j + 1 <= s.length /\ (L ++ [n]).length <= j + 1 /\ Value.int .i64 ((j : Int) + 1) = .int .i64 ((j + 1 : Nat) : Int) /\ OwnN w1 w.heap.size v' (L ++ [n]) /\ Below w.heap.size w w1 /\ Hid (CP = (L ++ [n]) ++ cutsL s (j + 1)) := ⟨hjl, by rw [List.length_append, List.length_singleton]; omega, by go_num, hown4.out, hb4.out, by show _ = _; rw [hsk.out, hD.out, List.append_assoc]; rfl⟩
             first | exact ⟨j + 1, L ++ [n], R⟩ | ((repeat apply Exists.intro); exact ⟨⟨j + 1, L ++ [n], R⟩, rfl⟩)
            case measure => (simp [intOf]; try omega)
           ·have f4 := byte_no hj1 46 46 rfl d4
            have hend2 : Hid (endC s n = wrapEnd s (s.length - (j + 1)) (j + 1)) := by show _ = _; rw [hend.out, hst.out, if_neg (by intro h; rcases h.2 with h | h; exact d3 h; exact d4 h)]
            clear d2 d3 d4
            go_wp2_with fail
            go_roundw
            case rel => exact ⟨j + 1, by omega, by omega, (by first | rfl | trivial), by go_num, (by first | rfl | trivial), hend2.out⟩
            case measure => (simp [intOf]; try omega)
         ·have f2 := byte_no hjl 95 95 rfl d2
          have hend2 : Hid (endC s n = wrapEnd s (s.length - (j + 1)) (j + 1)) := by show _ = _; rw [hend.out, hst.out, if_neg (fun h => d2 h.1)]
          clear d2
          go_wp2_with fail
          go_roundw
          case rel => exact ⟨j + 1, by omega, by omega, (by first | rfl | trivial), by go_num, (by first | rfl | trivial), hend2.out⟩
          case measure => (simp [intOf]; try omega)
        ·have hend2 : Hid (endC s n = none) := by show _ = _; rw [hend.out, show s.length - j = 0 by omega]; rfl
         exact absurd (hend2.out.symm.trans he.out) (by simp)
     ·have b2 := byte_no h1 95 95 rfl h95
      have b2' : ((((B s)[n + 1]'(by rw [B_size]; exact h1)).toNat : Int) != 95) = true := by rw [bne, b2]; rfl
      have hD := Lib.hid (cutsL_dot hlt hd (.inl h95))
      clear hd h95
      go_wp2_with (at_builtin; refine wpList_appN rfl (.tmp 16) (.tmp 18) rfl _ _ _ n rfl (hap.out _) wr.heap.size rfl ?c1 hll ?_)
      case c1 => exact cell_blk (blk_new _ _) 0
      intro v' w1 hown4 hb4
      replace hown4 := Lib.hid hown4
      replace hb4 := Lib.hid ((hba.out _).trans hb4)
      go_wp2_with fail
      go_roundw
      case rel =>
       have R : n + 1 <= s.length /\ (L ++ [n]).length <= n + 1 /\ Value.int .i64 ((n : Int) + 1) = .int .i64 ((n + 1 : Nat) : Int) /\ OwnN w1 w.heap.size v' (L ++ [n]) /\ Below w.heap.size w w1 /\ Hid (CP = (L ++ [n]) ++ cutsL s (n + 1)) := ⟨hlt, by rw [List.length_append, List.length_singleton]; omega, by go_num, hown4.out, hb4.out, by show _ = _; rw [hsk.out, hD.out, List.append_assoc]; rfl⟩
       first | exact ⟨n + 1, L ++ [n], R⟩ | ((repeat apply Exists.intro); exact ⟨⟨n + 1, L ++ [n], R⟩, rfl⟩)
      case measure => (simp [intOf]; try omega)
    ·have h1n : ((n : Int) + 1 == (s.length : Int)) = true := by rw [beq_iff_eq]; omega
     have hD := Lib.hid (cutsL_dot hlt hd (.inl (by rw [List.getElem?_eq_none (by omega)]; simp)))
     clear hd
     go_wp2_with (at_builtin; refine wpList_appN rfl (.tmp 16) (.tmp 18) rfl _ _ _ n rfl (hap.out _) wr.heap.size rfl ?c1 hll ?_)
     case c1 => exact cell_blk (blk_new _ _) 0
     intro v' w1 hown4 hb4
     replace hown4 := Lib.hid hown4
     replace hb4 := Lib.hid ((hba.out _).trans hb4)
     go_wp2_with fail
     go_roundw
     case rel =>
      have R : n + 1 <= s.length /\ (L ++ [n]).length <= n + 1 /\ Value.int .i64 ((n : Int) + 1) = .int .i64 ((n + 1 : Nat) : Int) /\ OwnN w1 w.heap.size v' (L ++ [n]) /\ Below w.heap.size w w1 /\ Hid (CP = (L ++ [n]) ++ cutsL s (n + 1)) := ⟨hlt, by rw [List.length_append, List.length_singleton]; omega, by go_num, hown4.out, hb4.out, by show _ = _; rw [hsk.out, hD.out, List.append_assoc]; rfl⟩
      first | exact ⟨n + 1, L ++ [n], R⟩ | ((repeat apply Exists.intro); exact ⟨⟨n + 1, L ++ [n], R⟩, rfl⟩)
     case measure => (simp [intOf]; try omega)
   ·have b1 := byte_no hlt 46 46 rfl hd
    have b1' : ((((B s)[n]'(by rw [B_size]; exact hlt)).toNat : Int) != 46) = true := by rw [bne, b1]; rfl
    have hD := Lib.hid (cutsL_no hlt hd)
    clear hd
    go_wp2_with fail
    go_roundw
    case rel =>
     have R : n + 1 <= s.length /\ L.length <= n + 1 /\ Value.int .i64 ((n : Int) + 1) = .int .i64 ((n + 1 : Nat) : Int) /\ OwnN wr w.heap.size u3 L /\ Below w.heap.size w wr /\ Hid (CP = L ++ cutsL s (n + 1)) := ⟨hlt, by omega, by go_num, hown.out, hbel.out, by show _ = _; rw [hsk.out, hD.out]⟩
     first | exact ⟨n + 1, L, R⟩ | ((repeat apply Exists.intro); exact ⟨⟨n + 1, L, R⟩, rfl⟩)
    case measure => (simp [intOf]; try omega)
  ·have hz := Lib.hid (cutsL_end (s := s) (i := n) (by omega))
   go_wp2_with fail
   go_ret
   exact ⟨_, rfl, by rw [hsk.out, hz.out, List.append_nil]; exact hown.out, hbel.out⟩

end Go.Proofs.YtjkecadfakjanaaGreatDoor
