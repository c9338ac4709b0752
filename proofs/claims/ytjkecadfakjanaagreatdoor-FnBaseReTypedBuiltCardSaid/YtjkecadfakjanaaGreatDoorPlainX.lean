/- The laws' test of a plain word walked: laws.plain, spec.IsKind. Conditions: texts of at most 2147483647 bytes. -/
import Derived.Test.YtjkecadfakjanaaGreatDoorBuiltX
import Derived.Test.YtjkecadfakjanaaGreatDoorSpecA
import Derived.Test.YtjkecadfakjanaaGreatDoorLow
import Derived.Test.YtjkecadfakjanaaGreatDoorShort
import Derived.Test.YtjkecadfakjanaaGreatDoorHelpB
import Derived.Test.YtjkecadfakjanaaGreatDoorRep
import Derived.Test.YtjkecadfakjanaaGreatDoorGet
import Derived.Deep.DeepCutAuto
import Derived.Test.YtjkecadfakjanaaGreatDoorBase
import Derived.Deep.MidRow
import Derived.BigFrame
set_option maxRecDepth 100000
set_option linter.unusedVariables false
set_option linter.unusedSimpArgs false
namespace Go.Proofs.YtjkecadfakjanaaGreatDoor
open Go.RowKit
attribute [local go_sem] B_extract B_toList B_append

set_option maxHeartbeats 1000000 in
theorem c_IsKindW (x : Str) (w : World) (hx : x.length <= 70368744177664) :
  Calls Tryz.prog 47 #[.string (B x)] w fun e w' => e = .returned (.bool (isKindL x)) /\ Below w.heap.size w w' := by
 have HL : Hid (Calls Tryz.prog 100 #[.string (B x)] w fun e w' => e = .returned (.string (B (lowerL x))) /\ Below w.heap.size w w') := c_lower x w (by omega)
 have HR : Hid (isKindL x = (lowerL x == [104, 111, 109, 101] || lowerL x == [112, 97, 103, 101] || lowerL x == [115, 101, 99, 116, 105, 111, 110] || lowerL x == [116, 97, 120, 111, 110, 111, 109, 121] || lowerL x == [116, 101, 114, 109] || lowerL x == [116, 97, 120, 111, 110, 111, 109, 121, 116, 101, 114, 109])) := rfl
 generalize isKindL x = R at HR |-
 generalize lowerL x = l at HR HL
 go_enter Tryz.func47, Tryz.ntmps47
 go_wp2_with fail
 refine HL.out.mono ?_; rintro e w1 ⟨rfl, hb⟩
 replace hb := Lib.hid hb
 cases h1 : (l == [104, 111, 109, 101]) with
 | true =>
  have q : Hid (R = true) := by show _ = _; rw [HR.out, h1]; rfl
  go_wp2_with fail
  go_ret
  exact ⟨ret_bool q.out.symm, hb.out⟩
 | false =>
 cases h2 : (l == [112, 97, 103, 101]) with
 | true =>
  have q : Hid (R = true) := by show _ = _; rw [HR.out, h1, h2]; rfl
  go_wp2_with fail
  go_ret
  exact ⟨ret_bool q.out.symm, hb.out⟩
 | false =>
 cases h3 : (l == [115, 101, 99, 116, 105, 111, 110]) with
 | true =>
  have q : Hid (R = true) := by show _ = _; rw [HR.out, h1, h2, h3]; rfl
  go_wp2_with fail
  go_ret
  exact ⟨ret_bool q.out.symm, hb.out⟩
 | false =>
 cases h4 : (l == [116, 97, 120, 111, 110, 111, 109, 121]) with
 | true =>
  have q : Hid (R = true) := by show _ = _; rw [HR.out, h1, h2, h3, h4]; rfl
  go_wp2_with fail
  go_ret
  exact ⟨ret_bool q.out.symm, hb.out⟩
 | false =>
 cases h5 : (l == [116, 101, 114, 109]) with
 | true =>
  have q : Hid (R = true) := by show _ = _; rw [HR.out, h1, h2, h3, h4, h5]; rfl
  go_wp2_with fail
  go_ret
  exact ⟨ret_bool q.out.symm, hb.out⟩
 | false =>
 cases h6 : (l == [116, 97, 120, 111, 110, 111, 109, 121, 116, 101, 114, 109]) with
 | true =>
  have q : Hid (R = true) := by show _ = _; rw [HR.out, h1, h2, h3, h4, h5, h6]; rfl
  go_wp2_with fail
  go_ret
  exact ⟨ret_bool q.out.symm, hb.out⟩
 | false =>
  have q : Hid (R = false) := by show _ = _; rw [HR.out, h1, h2, h3, h4, h5, h6]; rfl
  go_wp2_with fail
  go_ret
  exact ⟨ret_bool q.out.symm, hb.out⟩

/-- The test of the bytes from place k on. -/
def pcAt (s : Str) (k : Nat) : Bool := if k = 0 then plainChars s else (s.drop k).all siteWordB
def letterB (c : UInt8) : Bool := decide (97 <= c) && decide (c <= 122)
theorem pcAt_zero {s : Str} (h : 0 < s.length) : pcAt s 0 = (letterB s[0] && pcAt s 1) := by
 cases s with
 | nil => simp at h
 | cons c t => rfl
theorem pcAt_more {s : Str} {k : Nat} (h0 : k ≠ 0) (h : k < s.length) : pcAt s k = (siteWordB s[k] && pcAt s (k + 1)) := by
 unfold pcAt
 rw [if_neg h0, if_neg (Nat.succ_ne_zero k), drop_cons h, List.all_cons]
theorem letterB_int (c : UInt8) : letterB c = decide ((97 : Int) <= c.toNat /\ (c.toNat : Int) <= 122) := by
 have h1 : ∀ (a b : UInt8), decide (a <= b) = decide ((a.toNat : Int) <= (b.toNat : Int)) := fun a b => by
  rw [decide_eq_decide, UInt8.le_iff_toNat_le]; omega
 unfold letterB
 rw [h1, h1, Bool.eq_iff_iff]
 simp only [Bool.and_eq_true, decide_eq_true_eq]
 rfl
theorem pcAt_end {s : Str} {k : Nat} (h : s.length <= k) : pcAt s k = true := by
 unfold pcAt
 split
 ·rename_i e
  subst e
  have : s = [] := List.length_eq_zero_iff.1 (by omega)
  subst this; rfl
 ·rw [List.drop_of_length_le h]; rfl

set_option maxHeartbeats 4000000 in
theorem c_plainW (s : Str) (w : World) (hs : s.length <= 70368744177664) :
  Calls Tryz.prog 21 #[.string (B s)] w fun e w' => e = .returned (.bool (plainL s)) /\ Below w.heap.size w w' := by
 have HK := Lib.hid (fun wx => c_IsKindW s wx hs)
 have HR : Hid (plainL s = (pcAt s 0 && (s != [] && s != kIndex && s != kBaseof && !isKindL s))) := rfl
 generalize plainL s = R at HR |-
 generalize isKindL s = K at HR HK
 go_enter Tryz.func21, Tryz.ntmps21
 go_wp2
 go_loop [3] (fun i => ∃ k : Nat, k <= s.length /\ i = .int .i64 k /\ Hid (pcAt s 0 = pcAt s k)) (fun i => s.length - (intOf i).toNat)
 case atStart => exact ⟨0, Nat.zero_le _, rfl, rfl⟩
 case round =>
  obtain ⟨k, hk, rfl, hall⟩ := hrel
  by_cases hlt : k < s.length
  ·have hg := B_get s k hlt
   by_cases hz : k = 0
   ·have hbi := letterB_int s[k]
    subst hz
    have HM : Hid (pcAt s 0 = (letterB s[0] && pcAt s 1)) := pcAt_zero hlt
    by_cases a1 : (97 : Int) <= (((B s)[0]'(by rw [B_size]; exact hlt)).toNat : Int)
    ·by_cases a2 : (((B s)[0]'(by rw [B_size]; exact hlt)).toNat : Int) <= 122
     ·skip
      have hp : letterB s[0] = true := by
       rw [hbi]
       exact decide_eq_true (by rw [<- hg]; omega)
      have HN : Hid (pcAt s 0 = pcAt s 1) := by show _ = _; rw [HM.out, hp, Bool.true_and]
      have fa1 : (97 : Int) <= (((B s)[0]'(by rw [B_size]; exact hlt)).toNat : Int) := by omega
      have fa2 : (((B s)[0]'(by rw [B_size]; exact hlt)).toNat : Int) <= 122 := by omega
      clear hp hbi hg HM
      go_wp2_with fail
      go_round
      case rel => exact ⟨1, by omega, by go_num, HN.out⟩
      case measure => simp [intOf]; omega
     ·skip
      have hp : letterB s[0] = false := by
       rw [hbi]
       exact decide_eq_false (by rw [<- hg]; omega)
      have HN : Hid (pcAt s 0 = false) := by show _ = _; rw [HM.out, hp, Bool.false_and]
      have fa1 : (97 : Int) <= (((B s)[0]'(by rw [B_size]; exact hlt)).toNat : Int) := by omega
      have fa2 : ¬ ((((B s)[0]'(by rw [B_size]; exact hlt)).toNat : Int) <= 122) := by omega
      clear hp hbi hg HM
      go_wp2_with fail
      go_ret
      exact ⟨ret_bool (by rw [HR.out, HN.out]; rfl), Below.refl _ _⟩
    ·skip
     have hp : letterB s[0] = false := by
      rw [hbi]
      exact decide_eq_false (by rw [<- hg]; omega)
     have HN : Hid (pcAt s 0 = false) := by show _ = _; rw [HM.out, hp, Bool.false_and]
     have fa1 : ¬ ((97 : Int) <= (((B s)[0]'(by rw [B_size]; exact hlt)).toNat : Int)) := by omega
     clear hp hbi hg HM
     go_wp2_with fail
     go_ret
     exact ⟨ret_bool (by rw [HR.out, HN.out]; rfl), Below.refl _ _⟩
   ·have hbi := siteWordB_int s[k]
    have HM := Lib.hid (pcAt_more hz hlt)
    have hz1 : ((k : Int) == 0) = false := by rw [beq_eq_false_iff_ne]; omega
    by_cases a1 : (97 : Int) <= (((B s)[k]'(by rw [B_size]; exact hlt)).toNat : Int)
    ·by_cases a2 : (((B s)[k]'(by rw [B_size]; exact hlt)).toNat : Int) <= 122
     ·skip
      have hp : siteWordB s[k] = true := by
       rw [hbi]
       simp only [Bool.or_eq_true, decide_eq_true_eq, <- hg]; omega
      have HN : Hid (pcAt s k = pcAt s (k + 1)) := by show _ = _; rw [HM.out, hp, Bool.true_and]
      have fa1 : (97 : Int) <= (((B s)[k]'(by rw [B_size]; exact hlt)).toNat : Int) := by omega
      have fa2 : (((B s)[k]'(by rw [B_size]; exact hlt)).toNat : Int) <= 122 := by omega
      clear hp hbi hg HM
      go_wp2_with fail
      go_round
      case rel => exact ⟨k + 1, by omega, by go_num, hall.out.trans HN.out⟩
      case measure => simp [intOf]; omega
     ·skip
      have hp : siteWordB s[k] = false := by
       rw [hbi]
       simp only [Bool.or_eq_false_iff, decide_eq_false_iff_not, <- hg]; omega
      have HN : Hid (pcAt s k = false) := by show _ = _; rw [HM.out, hp, Bool.false_and]
      have fa1 : (97 : Int) <= (((B s)[k]'(by rw [B_size]; exact hlt)).toNat : Int) := by omega
      have fa2 : ¬ ((((B s)[k]'(by rw [B_size]; exact hlt)).toNat : Int) <= 122) := by omega
      have fb1 : ¬ ((((B s)[k]'(by rw [B_size]; exact hlt)).toNat : Int) < 48) := by omega
      have fb2 : 57 < (((B s)[k]'(by rw [B_size]; exact hlt)).toNat : Int) := by omega
      have fe : ((((B s)[k]'(by rw [B_size]; exact hlt)).toNat : Int) != 45) = true := by rw [bne_iff_ne]; omega
      clear hp hbi hg HM
      go_wp2_with fail
      go_ret
      exact ⟨ret_bool (by rw [HR.out, hall.out, HN.out]; rfl), Below.refl _ _⟩
    ·by_cases b1 : (((B s)[k]'(by rw [B_size]; exact hlt)).toNat : Int) < 48
     ·by_cases c1 : (((B s)[k]'(by rw [B_size]; exact hlt)).toNat : Int) = 45
      ·skip
       have hp : siteWordB s[k] = true := by
        rw [hbi]
        simp only [Bool.or_eq_true, decide_eq_true_eq, <- hg]; omega
       have HN : Hid (pcAt s k = pcAt s (k + 1)) := by show _ = _; rw [HM.out, hp, Bool.true_and]
       have fa1 : ¬ ((97 : Int) <= (((B s)[k]'(by rw [B_size]; exact hlt)).toNat : Int)) := by omega
       have fb1 : (((B s)[k]'(by rw [B_size]; exact hlt)).toNat : Int) < 48 := by omega
       have fe : ((((B s)[k]'(by rw [B_size]; exact hlt)).toNat : Int) != 45) = false := by rw [bne_eq_false_iff_eq]; omega
       clear hp hbi hg HM
       go_wp2_with fail
       go_round
       case rel => exact ⟨k + 1, by omega, by go_num, hall.out.trans HN.out⟩
       case measure => simp [intOf]; omega
      ·skip
       have hp : siteWordB s[k] = false := by
        rw [hbi]
        simp only [Bool.or_eq_false_iff, decide_eq_false_iff_not, <- hg]; omega
       have HN : Hid (pcAt s k = false) := by show _ = _; rw [HM.out, hp, Bool.false_and]
       have fa1 : ¬ ((97 : Int) <= (((B s)[k]'(by rw [B_size]; exact hlt)).toNat : Int)) := by omega
       have fb1 : (((B s)[k]'(by rw [B_size]; exact hlt)).toNat : Int) < 48 := by omega
       have fe : ((((B s)[k]'(by rw [B_size]; exact hlt)).toNat : Int) != 45) = true := by rw [bne_iff_ne]; omega
       clear hp hbi hg HM
       go_wp2_with fail
       go_ret
       exact ⟨ret_bool (by rw [HR.out, hall.out, HN.out]; rfl), Below.refl _ _⟩
     ·by_cases b2 : 57 < (((B s)[k]'(by rw [B_size]; exact hlt)).toNat : Int)
      ·skip
       have hp : siteWordB s[k] = false := by
        rw [hbi]
        simp only [Bool.or_eq_false_iff, decide_eq_false_iff_not, <- hg]; omega
       have HN : Hid (pcAt s k = false) := by show _ = _; rw [HM.out, hp, Bool.false_and]
       have fa1 : ¬ ((97 : Int) <= (((B s)[k]'(by rw [B_size]; exact hlt)).toNat : Int)) := by omega
       have fb1 : ¬ ((((B s)[k]'(by rw [B_size]; exact hlt)).toNat : Int) < 48) := by omega
       have fb2 : 57 < (((B s)[k]'(by rw [B_size]; exact hlt)).toNat : Int) := by omega
       have fe : ((((B s)[k]'(by rw [B_size]; exact hlt)).toNat : Int) != 45) = true := by rw [bne_iff_ne]; omega
       clear hp hbi hg HM
       go_wp2_with fail
       go_ret
       exact ⟨ret_bool (by rw [HR.out, hall.out, HN.out]; rfl), Below.refl _ _⟩
      ·skip
       have hp : siteWordB s[k] = true := by
        rw [hbi]
        simp only [Bool.or_eq_true, decide_eq_true_eq, <- hg]; omega
       have HN : Hid (pcAt s k = pcAt s (k + 1)) := by show _ = _; rw [HM.out, hp, Bool.true_and]
       have fa1 : ¬ ((97 : Int) <= (((B s)[k]'(by rw [B_size]; exact hlt)).toNat : Int)) := by omega
       have fb1 : ¬ ((((B s)[k]'(by rw [B_size]; exact hlt)).toNat : Int) < 48) := by omega
       have fb2 : ¬ (57 < (((B s)[k]'(by rw [B_size]; exact hlt)).toNat : Int)) := by omega
       clear hp hbi hg HM
       go_wp2_with fail
       go_round
       case rel => exact ⟨k + 1, by omega, by go_num, hall.out.trans HN.out⟩
       case measure => simp [intOf]; omega
  ·have HM : Hid (pcAt s k = true) := pcAt_end (by omega)
   cases he : s.isEmpty with
   | true =>
    have hs0 : s = [] := List.isEmpty_iff.1 he
    subst hs0
    go_wp2_with fail
    go_ret
    exact ⟨ret_bool (by rw [HR.out, hall.out, HM.out]; rfl), Below.refl _ _⟩
   | false =>
    have hne : (s != []) = true := by cases s with | nil => cases he | cons a t => rfl
    have HR2 : Hid (R = (s != kIndex && s != kBaseof && !K)) := by show _ = _; rw [HR.out, hall.out, HM.out, hne]; rfl
    clear hne HR hall HM
    cases h1 : (s == [105, 110, 100, 101, 120]) with
    | true =>
     have q : Hid (R = false) := by show _ = _; rw [HR2.out, bne, h1]; rfl
     have h2 : (s != [105, 110, 100, 101, 120]) = false := by rw [bne, h1]; rfl
     go_wp2_with fail
     go_ret
     exact ⟨ret_bool q.out.symm, Below.refl _ _⟩
    | false =>
    have h2 : (s != [105, 110, 100, 101, 120]) = true := by rw [bne, h1]; rfl
    cases h3 : (s == [98, 97, 115, 101, 111, 102]) with
    | true =>
     have q : Hid (R = false) := by show _ = _; rw [HR2.out, bne, bne, h1, h3]; rfl
     have h4 : (s != [98, 97, 115, 101, 111, 102]) = false := by rw [bne, h3]; rfl
     go_wp2_with fail
     go_ret
     exact ⟨ret_bool q.out.symm, Below.refl _ _⟩
    | false =>
    have h4 : (s != [98, 97, 115, 101, 111, 102]) = true := by rw [bne, h3]; rfl
    have q : Hid (R = !K) := by show _ = _; rw [HR2.out, bne, bne, h1, h3]; rfl
    go_wp2_with fail
    refine (HK.out _).mono ?_; rintro e w1 ⟨rfl, hb⟩
    go_wp2_with fail
    go_ret
    exact ⟨ret_bool (by rw [q.out]), hb⟩

end Go.Proofs.YtjkecadfakjanaaGreatDoor

namespace Go.Proofs.YtjkecadfakjanaaGreatDoor
open Go.RowKit
attribute [local go_sem] B_extract B_toList B_append

def plainsL (l : List Str) : Bool := l.all plainL && fewL l
set_option maxHeartbeats 1000000 in
theorem c_plains (l : List Str) (v : Value) (w : World) (hv : StrsAt w v l) (hf : fits2 l = true) :
  Calls Tryz.prog 20 #[v] w fun e w' => e = .returned (.bool (plainsL l)) /\ Below w.heap.size w w' := by
 have HV := Lib.hid hv
 have HF : Hid (∀ wx, StrsAt wx v l -> Calls Tryz.prog 38 #[v] wx fun e w' => e = .returned (.bool (fewL l)) /\ wx = w') := fun wx h => c_few l v wx h hf
 have HE := Lib.hid (fits2_get hf).2
 have HR : Hid (plainsL l = (l.all plainL && fewL l)) := rfl
 generalize plainsL l = R at HR |-
 generalize fewL l = F at HR HF
 have hlen := (fits2_get hf).1
 obtain ⟨a, cap, rfl⟩ : ∃ a cap, v = .slice a l.length cap := by obtain ⟨_, a, cap, e, _⟩ := hv; exact ⟨a, cap, e⟩
 clear hv hf
 go_enter Tryz.func20, Tryz.ntmps20
 go_wp2
 go_loopw [7] (fun i wr => ∃ k : Nat, k <= l.length /\ i = .int .i64 k /\ Hid (l.all plainL = (l.drop k).all plainL) /\ Hid (Below w.heap.size w wr)) (fun i _ => l.length - (intOf i).toNat)
 case atStart => exact ⟨0, Nat.zero_le _, rfl, rfl, Below.refl _ _⟩
 case round =>
  obtain ⟨k, hk, rfl, hall, hb⟩ := hrel
  by_cases hlt : k < l.length
  ·obtain ⟨_, a', cap', ea, hc⟩ := HV.out.below hb.out
   obtain ⟨rfl, -, rfl⟩ := Value.slice.inj ea
   obtain ⟨b, off, rfl, hcell⟩ := hc k hlt
   have hkl := HE.out k hlt
   have HP : Hid (∀ wx, Calls Tryz.prog 21 #[.string (B l[k])] wx fun e w' => e = .returned (.bool (plainL l[k])) /\ Below wx.heap.size wx w') := fun wx => c_plainW l[k] wx (by omega)
   clear hc ea
   cases he : plainL l[k] with
   | true =>
    have HM := Lib.hid (all_miss (p := plainL) hlt he)
    rw [he] at HP
    clear he
    go_wp2_with fail
    refine (HP.out _).mono ?_; rintro e w' ⟨rfl, hb'⟩
    replace hb' := Lib.hid hb'
    go_wp2_with fail
    go_roundw
    case rel => exact ⟨k + 1, by omega, by go_num, hall.out.trans HM.out, Lib.hid (belowThen hb.out hb'.out (Nat.le_refl _))⟩
    case measure => simp [intOf]; omega
   | false =>
    have HM := Lib.hid (all_hit (p := plainL) hlt he)
    rw [he] at HP
    clear he
    go_wp2_with fail
    refine (HP.out _).mono ?_; rintro e w' ⟨rfl, hb'⟩
    replace hb' := Lib.hid hb'
    go_wp2_with fail
    go_ret
    exact ⟨ret_bool (by rw [HR.out, hall.out, HM.out]; rfl), belowThen hb.out hb'.out (Nat.le_refl _)⟩
  ·have HM : Hid ((l.drop k).all plainL = true) := by show _ = _; rw [List.drop_of_length_le (by omega)]; rfl
   have HV2 := Lib.hid (HV.out.below hb.out)
   go_wp2_with fail
   refine (HF.out _ HV2.out).mono ?_; rintro e w' ⟨rfl, rfl⟩
   go_wp2_with fail
   go_ret
   exact ⟨ret_bool (by rw [HR.out, hall.out, HM.out]; rfl), hb.out⟩

theorem folder_step {l : List Str} {k : Nat} (h : k < l.length) : folderL (l.take (k + 1)) = folderL (l.take k) ++ 47 :: l[k] := by
 rw [List.take_succ_eq_append_getElem h, folder_snoc]
theorem folder_size (l : List Str) : (folderL l).length = l.length + sumLen l := by
 induction l with
 | nil => rfl
 | cons d r ih => rw [folder_cons, List.length_cons, List.length_append, ih]; unfold sumLen; simp; omega
theorem folder_take_size (l : List Str) (k : Nat) : (folderL (l.take k)).length <= (folderL l).length := by
 conv => rhs; rw [<- List.take_append_drop k l, folder_append]
 rw [List.length_append]; omega
set_option maxHeartbeats 1000000 in
theorem c_folder (l : List Str) (v : Value) (w : World) (hv : StrsAt w v l) (hf : fewL l = true) :
  Calls Tryz.prog 23 #[v] w fun e w' => e = .returned (.string (B (folderL l))) /\ w = w' := by
 obtain ⟨h0, a, cap, rfl, hc⟩ := hv
 have HC := Lib.hid hc
 have hsz : (folderL l).length <= 2000 := by rw [folder_size]; simpa [fewL] using hf
 have HT := Lib.hid (folder_take_size l)
 clear hc hf
 go_enter Tryz.func23, Tryz.ntmps23
 go_wp2
 go_loop [3, 8] (fun s i => ∃ k : Nat, k <= l.length /\ i = .int .i64 k /\ s = .string (B (folderL (l.take k)))) (fun _ i => l.length - (intOf i).toNat)
 case atStart => exact ⟨0, Nat.zero_le _, rfl, rfl⟩
 case round =>
  obtain ⟨k, hk, rfl, rfl⟩ := hrel
  by_cases hlt : k < l.length
  ·obtain ⟨b, off, rfl, hcell⟩ := HC.out k hlt
   have HS := Lib.hid (folder_step hlt)
   have h1 := HT.out k
   have h2 := HT.out (k + 1)
   rw [HS.out, List.length_append, List.length_cons] at h2
   have hrel : Hid (∃ k' : Nat, k' <= l.length /\ Value.int .i64 ((k : Int) + 1) = .int .i64 k' /\ Value.string (B (folderL (l.take k) ++ 47 :: l[k])) = .string (B (folderL (l.take k')))) := ⟨k + 1, by omega, by go_num, by rw [HS.out]⟩
   generalize folderL (l.take k) = Y at hrel h1 h2 |-
   go_wp2
   go_round
   case rel => exact hrel.out
   case measure => simp [intOf]; omega
  ·obtain rfl : k = l.length := by omega
   rw [List.take_length]
   go_wp2
   go_ret
   exact ⟨rfl, rfl⟩

theorem c_last (l : List Str) (v : Value) (w : World) (hv : StrsAt w v l) :
  Calls Tryz.prog 32 #[v] w fun e w' => e = .returned (.string (B (l.getLastD []))) /\ w = w' := by
 obtain ⟨h0, a, cap, rfl, hc⟩ := hv
 rcases List.eq_nil_or_concat l with rfl | ⟨r, d, hrd⟩
 ·go_enter Tryz.func32, Tryz.ntmps32
  go_wp2
  go_ret
  exact ⟨rfl, rfl⟩
 ·rw [List.concat_eq_append] at hrd
  subst hrd
  have hlen : (r ++ [d]).length = r.length + 1 := by simp
  obtain ⟨b, off, rfl, hcell⟩ := hc r.length (by omega)
  rw [show (r ++ [d])[r.length]'(by omega) = d by simp] at hcell
  have HR : Hid ((r ++ [d]).getLastD [] = d) := by show _ = _; simp
  generalize (r ++ [d]).getLastD [] = x at HR |-
  rw [hlen] at h0 |-
  have h1 : ¬ ((r.length : Int) + 1 = 0) := by omega
  have h2 : ((r.length : Int) + 1) - 1 = (r.length : Int) := by omega
  clear hc hlen
  go_enter Tryz.func32, Tryz.ntmps32
  go_wp2
  go_ret
  exact ⟨ret_str HR.out.symm, rfl⟩

theorem c_first (l : List Str) (v : Value) (w : World) (hv : StrsAt w v l) :
  Calls Tryz.prog 36 #[v] w fun e w' => e = .returned (.string (B (l.headD []))) /\ w = w' := by
 obtain ⟨h0, a, cap, rfl, hc⟩ := hv
 cases l with
 | nil =>
  go_enter Tryz.func36, Tryz.ntmps36
  go_wp2
  go_ret
  exact ⟨rfl, rfl⟩
 | cons d r =>
  obtain ⟨b, off, rfl, hcell⟩ := hc 0 (by simp)
  rw [show (d :: r)[0]'(by simp) = d from rfl] at hcell
  obtain ⟨n, hn⟩ : ∃ n, n = (d :: r).length := ⟨_, rfl⟩
  have hn1 : (0 : Int) < (n : Int) := by rw [hn, List.length_cons]; omega
  have hd0 : decide ((n : Int) = 0) = false := by rw [decide_eq_false_iff_not]; omega
  have hcell2 : w.cell? ⟨b, off, none⟩ = some (.string (B d)) := hcell
  rw [<- hn] at h0 |-
  clear hc hn
  go_enter Tryz.func36, Tryz.ntmps36
  go_wp2
  go_ret
  exact ⟨rfl, rfl⟩

def rootedL (s : Str) : Str := if s = [] then [47] else s
theorem c_rooted (s : Str) (w : World) :
  Calls Tryz.prog 33 #[.string (B s)] w fun e w' => e = .returned (.string (B (rootedL s))) /\ w = w' := by
 cases he : s.isEmpty with
 | true =>
  have hs0 : s = [] := List.isEmpty_iff.1 he
  subst hs0
  go_enter Tryz.func33, Tryz.ntmps33
  go_wp2
  go_ret
  exact ⟨rfl, rfl⟩
 | false =>
  have HR : Hid (rootedL s = s) := if_neg (List.isEmpty_eq_false_iff.1 he)
  go_enter Tryz.func33, Tryz.ntmps33
  go_wp2_with fail
  go_ret
  exact ⟨ret_str HR.out.symm, rfl⟩

/-- The n-th word of a list, where there is one and it is plain. -/
def pickL (l : List Str) (n : Int) : Str := if 0 <= n /\ n < (l.length : Int) /\ plainL (l.getD n.toNat []) = true then l.getD n.toNat [] else []
theorem pick_ne {l : List Str} {n : Int} (h : pickL l n ≠ []) : amongL l (pickL l n) = true /\ plainL (pickL l n) = true := by
 unfold pickL at h |-
 split
 ·rename_i hc
  obtain ⟨h1, h2, h3⟩ := hc
  refine ⟨?_, h3⟩
  have hlt : n.toNat < l.length := by omega
  unfold amongL
  rw [List.any_eq_true]
  refine ⟨l[n.toNat], List.getElem_mem hlt, ?_⟩
  rw [List.getD_eq_getElem?_getD, List.getElem?_eq_getElem hlt]
  simp
 ·rename_i hc
  rw [if_neg hc] at h
  exact absurd rfl h

set_option maxHeartbeats 1000000 in
theorem c_content (site : SiteM) (n : Int) (vl vd vf vc : Value) (w : World) (hv : SiteAt w vl vd vf vc site) (hf : fits2 site.content = true) :
  Calls Tryz.prog 26 #[.agg #[vl, vd, vf, vc], .int .i64 n] w fun e w' => e = .returned (.string (B (pickL site.content n))) /\ Below w.heap.size w w' := by
 have hlen := (fits2_get hf).1
 have HE := Lib.hid (fits2_get hf).2
 obtain ⟨_, a, cap, rfl, hc⟩ := hv.c
 clear hv
 by_cases h1 : 0 <= n
 rotate_left 1
 ·have HR : Hid (pickL site.content n = []) := if_neg (fun h => h1 h.1)
  generalize pickL site.content n = R at HR |-
  clear hc HE
  go_enter Tryz.func26, Tryz.ntmps26
  go_wp2_with fail
  go_ret
  exact ⟨ret_str HR.out.symm, Below_alloc w _⟩
 by_cases h2 : n < (site.content.length : Int)
 rotate_left 1
 ·have HR : Hid (pickL site.content n = []) := if_neg (fun h => h2 h.2.1)
  generalize pickL site.content n = R at HR |-
  clear hc HE
  go_enter Tryz.func26, Tryz.ntmps26
  go_wp2_with fail
  go_ret
  exact ⟨ret_str HR.out.symm, Below_alloc w _⟩
 obtain ⟨k, rfl⟩ : ∃ k : Nat, n = k := ⟨n.toNat, by omega⟩
 have hlt : k < site.content.length := by omega
 have hkl := HE.out k hlt
 have HP : Hid (∀ wx, Calls Tryz.prog 21 #[.string (B site.content[k])] wx fun e w' => e = .returned (.bool (plainL site.content[k])) /\ Below wx.heap.size wx w') := fun wx => c_plainW site.content[k] wx (by omega)
 have hd : site.content.getD k [] = site.content[k] := by rw [List.getD_eq_getElem?_getD, List.getElem?_eq_getElem hlt]; rfl
 have HR : Hid (pickL site.content k = if plainL site.content[k] = true then site.content[k] else []) := by
  show _ = _
  unfold pickL
  rw [Int.toNat_natCast, hd]
  cases plainL site.content[k] with
  | true => rw [if_pos ⟨h1, h2, rfl⟩, if_pos rfl]
  | false => rw [if_neg (fun h => by cases h.2.2), if_neg (by decide)]
 obtain ⟨b, off, rfl, hcell⟩ := hc k hlt
 clear hc
 have hac : ∀ o, (w.alloc o).cell? ⟨b, off + k, none⟩ = some (.string (B site.content[k])) := fun o => ((Below_alloc w o).cell (p := ⟨b, off + k, none⟩) (cell_lt hcell)).trans hcell
 have HB : Hid (b < w.heap.size) := cell_lt hcell
 generalize pickL site.content k = R at HR |-
 generalize site.content[k] = x at HP HR hkl hac hcell hd
 clear HE hd hcell
 generalize site.content.length = m at hlen h2 hlt |-
 cases hp : plainL x with
 | false =>
  rw [hp] at HP HR
  replace HR : Hid (R = []) := HR
  clear hp
  go_enter Tryz.func26, Tryz.ntmps26
  go_wp2_with fail
  refine (HP.out _).mono ?_; rintro e w2 ⟨rfl, b2⟩
  replace b2 := Lib.hid b2
  go_wp2_with fail
  go_ret
  exact ⟨ret_str HR.out.symm, belowThen (Below_alloc w _) b2.out (Nat.le_refl _)⟩
 | true =>
  rw [hp] at HP HR
  replace HR : Hid (R = x) := HR
  clear hp
  go_enter Tryz.func26, Tryz.ntmps26
  go_wp2_with fail
  refine (HP.out _).mono ?_; rintro e w2 ⟨rfl, b2⟩
  have hk : w2.cell? ⟨w.heap.size, 3, none⟩ = some (.slice (some ⟨b, off, none⟩) m cap) := cell_blk (blk_below (blk_new w _) b2) 3
  have hx : w2.cell? ⟨b, off + k, none⟩ = some (.string (B x)) := (b2.cell (p := ⟨b, off + k, none⟩) (by have := HB.out; simp; omega)).trans (hac _)
  replace b2 := Lib.hid b2
  clear hac
  go_wp2_with fail
  go_ret
  exact ⟨ret_str HR.out.symm, belowThen (Below_alloc w _) b2.out (Nat.le_refl _)⟩

end Go.Proofs.YtjkecadfakjanaaGreatDoor

namespace Go.Proofs.YtjkecadfakjanaaGreatDoor
open Go.RowKit
attribute [local go_sem] B_extract B_toList B_append

theorem named_hitM {l : List (Str × Str)} {n : Str} {k : Nat} (h : k < l.length) (e : (l[k].1 == n) = true) : formatNamed (l.drop k) n = true := by
 rw [drop_cons h]; unfold formatNamed; rw [List.any_cons, e]; rfl
theorem named_missM {l : List (Str × Str)} {n : Str} {k : Nat} (h : k < l.length) (e : (l[k].1 == n) = false) : formatNamed (l.drop k) n = formatNamed (l.drop (k + 1)) n := by
 rw [drop_cons h]; unfold formatNamed; rw [List.any_cons, e]; rfl
/-- A word that a site has as a language or a format. -/
def meantL (site : SiteM) (s : Str) : Bool := formatNamed site.formats s || (amongL site.languages s || amongL site.disabled s)

set_option maxHeartbeats 4000000 in
theorem c_meant (site : SiteM) (s : Str) (vl vd vf vc : Value) (w : World) (hv : SiteAt w vl vd vf vc site) :
  Calls Tryz.prog 31 #[.agg #[vl, vd, vf, vc], .string (B s)] w fun e w' => e = .returned (.bool (meantL site s)) /\ Below w.heap.size w w' := by
 obtain ⟨h0, fa, fcap, rfl, hfc⟩ := hv.f
 have HC := Lib.hid hfc
 have HR : Hid (meantL site s = (formatNamed site.formats s || (amongL site.languages s || amongL site.disabled s))) := rfl
 generalize meantL site s = R at HR |-
 have HLL : Hid (∀ wx, StrsAt wx vl site.languages -> Calls Tryz.prog 22 #[vl, .string (B s)] wx fun e w' => e = .returned (.bool (amongL site.languages s)) /\ wx = w') := fun wx h => c_listed site.languages s vl wx h
 have HLD : Hid (∀ wx, StrsAt wx vd site.disabled -> Calls Tryz.prog 22 #[vd, .string (B s)] wx fun e w' => e = .returned (.bool (amongL site.disabled s)) /\ wx = w') := fun wx h => c_listed site.disabled s vd wx h
 have HL := Lib.hid hv.l
 have HD := Lib.hid hv.d
 generalize site.languages = LS at HR HLL HL
 generalize site.disabled = DS at HR HLD HD
 clear hv hfc
 generalize site.formats = FS at HC h0 HR |-
 obtain ⟨obs, hobs⟩ : ∃ o : Obj, o = .cells #[vl, vd, .slice fa FS.length fcap, vc] 25 := ⟨_, rfl⟩
 have hB1 : Hid (Below w.heap.size w (w.alloc obs)) := Below_alloc w obs
 have hsb : Hid ((w.alloc obs).heap[w.heap.size]? = some (.cells #[vl, vd, .slice fa FS.length fcap, vc] 25)) := by show _ = _; rw [hobs]; exact blk_new w _
 go_enter Tryz.func31, Tryz.ntmps31
 go_wp2_with fail
 rw [<- hobs]
 generalize w.alloc obs = w1 at hB1 hsb |-
 replace HL := Lib.hid (HL.out.below hB1.out)
 replace HD := Lib.hid (HD.out.below hB1.out)
 go_loopw [10] (fun i wr => ∃ k : Nat, k <= FS.length /\ i = .int .i64 k /\ Hid (formatNamed FS s = formatNamed (FS.drop k) s) /\ Hid (Below w1.heap.size w1 wr)) (fun i _ => FS.length - (intOf i).toNat)
 case atStart => exact ⟨0, Nat.zero_le _, rfl, rfl, Lib.hid (Below.refl _ _)⟩
 case round =>
  obtain ⟨k, hk, rfl, hall, hb⟩ := hrel
  by_cases hlt : k < FS.length
  ·obtain ⟨b, off, rfl, d1, d2⟩ := HC.out k hlt
   have hzz := hB1.out.size
   have y1 : wr.cell? ⟨b, off + k * 2, none⟩ = some (.string (B FS[k].1)) := (hb.out.cell (p := ⟨b, off + k * 2, none⟩) (by have := cell_lt d1; show b < _; omega)).trans ((hB1.out.cell (p := ⟨b, off + k * 2, none⟩) (cell_lt d1)).trans d1)
   have y2 : wr.cell? ⟨b, off + k * 2 + 1, none⟩ = some (.string (B FS[k].2)) := (hb.out.cell (p := ⟨b, off + k * 2 + 1, none⟩) (by have := cell_lt d2; show b < _; omega)).trans ((hB1.out.cell (p := ⟨b, off + k * 2 + 1, none⟩) (cell_lt d2)).trans d2)
   clear d1 d2 hzz
   cases he : (FS[k].1 == s) with
   | true =>
    have HM := Lib.hid (named_hitM hlt he)
    go_wp2_with fail
    go_ret
    exact ⟨ret_bool (by rw [HR.out, hall.out, HM.out]; rfl), belowThen hB1.out (hb.out.alloc hb.out.size _) (Nat.le_refl _)⟩
   | false =>
    have HM := Lib.hid (named_missM hlt he)
    go_wp2_with fail
    go_roundw
    case rel => exact ⟨k + 1, by omega, by go_num, Lib.hid (hall.out.trans HM.out), Lib.hid (hb.out.alloc hb.out.size _)⟩
    case measure => simp [intOf]; omega
  ·have HM : Hid (formatNamed (FS.drop k) s = false) := by show _ = _; rw [List.drop_of_length_le (by omega)]; rfl
   have hs2 := Lib.hid (blk_below hsb.out hb.out)
   have k0 := cell_blk hs2.out 0
   have k1 := cell_blk hs2.out 1
   replace k0 : wr.cell? ⟨w.heap.size, 0, none⟩ = some vl := k0
   replace k1 : wr.cell? ⟨w.heap.size, 1, none⟩ = some vd := k1
   have H1 := HLL.out wr (HL.out.below hb.out)
   have H2 := HLD.out wr (HD.out.below hb.out)
   cases ha : amongL LS s with
   | true =>
    rw [ha] at H1 HR
    replace H1 := Lib.hid H1
    clear H2 ha HLL HLD
    go_wp2_with fail
    refine H1.out.mono ?_; rintro e w' ⟨rfl, rfl⟩
    go_wp2_with fail
    go_ret
    exact ⟨ret_bool (by rw [HR.out, hall.out, HM.out]; rfl), belowThen hB1.out hb.out (Nat.le_refl _)⟩
   | false =>
    rw [ha] at H1 HR
    replace H1 := Lib.hid H1
    replace H2 := Lib.hid H2
    clear ha HLL HLD
    go_wp2_with fail
    refine H1.out.mono ?_; rintro e w' ⟨rfl, rfl⟩
    go_wp2_with fail
    refine H2.out.mono ?_; rintro e w' ⟨rfl, rfl⟩
    go_wp2_with fail
    go_ret
    exact ⟨ret_bool (by rw [HR.out, hall.out, HM.out]; rfl), belowThen hB1.out hb.out (Nat.le_refl _)⟩

def shapedL (site : SiteM) (s : Str) : Bool := plainL s && !meantL site s
theorem c_shaped (site : SiteM) (s : Str) (vl vd vf vc : Value) (w : World) (hv : SiteAt w vl vd vf vc site) (hs : s.length <= 70368744177664) :
  Calls Tryz.prog 34 #[.agg #[vl, vd, vf, vc], .string (B s)] w fun e w' => e = .returned (.bool (shapedL site s)) /\ Below w.heap.size w w' := by
 have HP : Hid (∀ wx, Calls Tryz.prog 21 #[.string (B s)] wx fun e w' => e = .returned (.bool (plainL s)) /\ Below wx.heap.size wx w') := fun wx => c_plainW s wx hs
 have HM : Hid (∀ wx, SiteAt wx vl vd vf vc site -> Calls Tryz.prog 31 #[.agg #[vl, vd, vf, vc], .string (B s)] wx fun e w' => e = .returned (.bool (meantL site s)) /\ Below wx.heap.size wx w') := fun wx h => c_meant site s vl vd vf vc wx h
 have HR : Hid (shapedL site s = (plainL s && !meantL site s)) := rfl
 generalize shapedL site s = R at HR |-
 generalize meantL site s = M at HR HM
 obtain ⟨obs, hobs⟩ : ∃ o : Obj, o = .cells #[vl, vd, vf, vc] 25 := ⟨_, rfl⟩
 have hB1 : Hid (Below w.heap.size w (w.alloc obs)) := Below_alloc w obs
 have hsb : Hid ((w.alloc obs).heap[w.heap.size]? = some (.cells #[vl, vd, vf, vc] 25)) := by show _ = _; rw [hobs]; exact blk_new w _
 have HV1 : Hid (SiteAt (w.alloc obs) vl vd vf vc site) := hv.alloc obs
 clear hv
 cases hp : plainL s with
 | false =>
  rw [hp] at HP HR
  go_enter Tryz.func34, Tryz.ntmps34
  go_wp2_with fail
  rw [<- hobs]
  generalize w.alloc obs = w1 at hB1 hsb HV1 |-
  refine (HP.out _).mono ?_; rintro e w2 ⟨rfl, b2⟩
  have hB2 := Lib.hid (belowThen hB1.out b2 (Nat.le_refl _))
  go_wp2_with fail
  go_ret
  exact ⟨ret_bool HR.out.symm, hB2.out⟩
 | true =>
  rw [hp] at HP HR
  go_enter Tryz.func34, Tryz.ntmps34
  go_wp2_with fail
  rw [<- hobs]
  generalize w.alloc obs = w1 at hB1 hsb HV1 |-
  refine (HP.out _).mono ?_; rintro e w2 ⟨rfl, b2⟩
  have hB2 := Lib.hid (belowThen hB1.out b2 (Nat.le_refl _))
  have hsb2 := Lib.hid (blk_below hsb.out b2)
  have HV2 := Lib.hid (HV1.out.below b2)
  obtain ⟨k0, k1, k2, k3⟩ : w2.cell? ⟨w.heap.size, 0, none⟩ = some vl /\ w2.cell? ⟨w.heap.size, 1, none⟩ = some vd /\ w2.cell? ⟨w.heap.size, 2, none⟩ = some vf /\ w2.cell? ⟨w.heap.size, 3, none⟩ = some vc := ⟨cell_blk hsb2.out 0, cell_blk hsb2.out 1, cell_blk hsb2.out 2, cell_blk hsb2.out 3⟩
  clear b2 hsb HV1 hB1 HP
  go_wp2_with fail
  refine (HM.out _ HV2.out).mono ?_; rintro e w3 ⟨rfl, b3⟩
  have hB3 := Lib.hid (belowThen hB2.out b3 (Nat.le_refl _))
  go_wp2_with fail
  go_ret
  exact ⟨ret_bool (by rw [HR.out]; rfl), hB3.out⟩

end Go.Proofs.YtjkecadfakjanaaGreatDoor

namespace Go.Proofs.YtjkecadfakjanaaGreatDoor
open Go.RowKit
attribute [local go_sem] B_extract B_toList B_append

set_option maxHeartbeats 1000000 in
theorem c_tongue (site : SiteM) (n : Int) (vl vd vf vc : Value) (w : World) (hv : SiteAt w vl vd vf vc site) (hf : fits2 site.languages = true) :
  Calls Tryz.prog 35 #[.agg #[vl, vd, vf, vc], .int .i64 n] w fun e w' => e = .returned (.string (B (pickL site.languages n))) /\ Below w.heap.size w w' := by
 have hlen := (fits2_get hf).1
 have HE := Lib.hid (fits2_get hf).2
 obtain ⟨_, a, cap, rfl, hc⟩ := hv.l
 clear hv
 by_cases h1 : 0 <= n
 rotate_left 1
 ·have HR : Hid (pickL site.languages n = []) := if_neg (fun h => h1 h.1)
  generalize pickL site.languages n = R at HR |-
  clear hc HE
  go_enter Tryz.func35, Tryz.ntmps35
  go_wp2_with fail
  go_ret
  exact ⟨ret_str HR.out.symm, Below_alloc w _⟩
 by_cases h2 : n < (site.languages.length : Int)
 rotate_left 1
 ·have HR : Hid (pickL site.languages n = []) := if_neg (fun h => h2 h.2.1)
  generalize pickL site.languages n = R at HR |-
  clear hc HE
  go_enter Tryz.func35, Tryz.ntmps35
  go_wp2_with fail
  go_ret
  exact ⟨ret_str HR.out.symm, Below_alloc w _⟩
 obtain ⟨k, rfl⟩ : ∃ k : Nat, n = k := ⟨n.toNat, by omega⟩
 have hlt : k < site.languages.length := by omega
 have hkl := HE.out k hlt
 have HP : Hid (∀ wx, Calls Tryz.prog 21 #[.string (B site.languages[k])] wx fun e w' => e = .returned (.bool (plainL site.languages[k])) /\ Below wx.heap.size wx w') := fun wx => c_plainW site.languages[k] wx (by omega)
 have hd : site.languages.getD k [] = site.languages[k] := by rw [List.getD_eq_getElem?_getD, List.getElem?_eq_getElem hlt]; rfl
 have HR : Hid (pickL site.languages k = if plainL site.languages[k] = true then site.languages[k] else []) := by
  show _ = _
  unfold pickL
  rw [Int.toNat_natCast, hd]
  cases plainL site.languages[k] with
  | true => rw [if_pos ⟨h1, h2, rfl⟩, if_pos rfl]
  | false => rw [if_neg (fun h => by cases h.2.2), if_neg (by decide)]
 obtain ⟨b, off, rfl, hcell⟩ := hc k hlt
 clear hc
 have hac : ∀ o, (w.alloc o).cell? ⟨b, off + k, none⟩ = some (.string (B site.languages[k])) := fun o => ((Below_alloc w o).cell (p := ⟨b, off + k, none⟩) (cell_lt hcell)).trans hcell
 have HB : Hid (b < w.heap.size) := cell_lt hcell
 generalize pickL site.languages k = R at HR |-
 generalize site.languages[k] = x at HP HR hkl hac hcell hd
 clear HE hd hcell
 generalize site.languages.length = m at hlen h2 hlt |-
 cases hp : plainL x with
 | false =>
  rw [hp] at HP HR
  replace HR : Hid (R = []) := HR
  clear hp
  go_enter Tryz.func35, Tryz.ntmps35
  go_wp2_with fail
  refine (HP.out _).mono ?_; rintro e w2 ⟨rfl, b2⟩
  replace b2 := Lib.hid b2
  go_wp2_with fail
  go_ret
  exact ⟨ret_str HR.out.symm, belowThen (Below_alloc w _) b2.out (Nat.le_refl _)⟩
 | true =>
  rw [hp] at HP HR
  replace HR : Hid (R = x) := HR
  clear hp
  go_enter Tryz.func35, Tryz.ntmps35
  go_wp2_with fail
  refine (HP.out _).mono ?_; rintro e w2 ⟨rfl, b2⟩
  have hk : w2.cell? ⟨w.heap.size, 0, none⟩ = some (.slice (some ⟨b, off, none⟩) m cap) := cell_blk (blk_below (blk_new w _) b2) 0
  have hx : w2.cell? ⟨b, off + k, none⟩ = some (.string (B x)) := (b2.cell (p := ⟨b, off + k, none⟩) (by have := HB.out; simp; omega)).trans (hac _)
  replace b2 := Lib.hid b2
  clear hac
  go_wp2_with fail
  go_ret
  exact ⟨ret_str HR.out.symm, belowThen (Below_alloc w _) b2.out (Nat.le_refl _)⟩

end Go.Proofs.YtjkecadfakjanaaGreatDoor

namespace Go.Proofs.YtjkecadfakjanaaGreatDoor
open Go.RowKit
attribute [local go_sem] B_extract B_toList B_append

set_option maxHeartbeats 2000000 in
theorem c_shortNo (site : SiteM) (component s : Str) (vl vd vf vc : Value) (w : World) (hv : SiteAt w vl vd vf vc site) (hf : siteFits site = true) (hcs1 : component.length + s.length <= 8000000000) (hfew : (fewL site.languages && fewL site.disabled && fewL site.content) = false) :
  Calls Tryz.prog 13 #[.agg #[vl, vd, vf, vc], .string (B component), .string (B s)] w fun e w' => e = .returned (.bool false) /\ Below w.heap.size w w' := by
 have hf' : fits2 site.languages = true /\ fits2 site.disabled = true /\ fits3 site.formats = true /\ fits2 site.content = true := by
  simp only [siteFits, Bool.and_eq_true] at hf; exact ⟨hf.1.1.1, hf.1.1.2, hf.1.2, hf.2⟩
 obtain ⟨f1, f2, f3, f4⟩ := hf'
 obtain ⟨hlen, hel⟩ := fits3_get f3
 have HE := Lib.hid hel
 have F1 := Lib.hid f1
 have F2 := Lib.hid f2
 have F4 := Lib.hid f4
 have HV := Lib.hid hv
 obtain ⟨_, a, cap, rfl, hcF⟩ := hv.f
 clear hv hel f1 f2 f3 f4 hcF hf
 go_enter Tryz.func13, Tryz.ntmps13
 go_wp2_with fail
 go_loopw [7, 18] (fun n i wr => ∃ (k : Nat) (m : Int), k <= site.formats.length /\ i = .int .i64 k /\ n = .int .i64 m /\
  Below w.heap.size w wr /\ wr.heap[w.heap.size]? = some (.cells #[vl, vd, .slice a site.formats.length cap, vc] 25 (0, 0))) (fun _ i _ => site.formats.length - (intOf i).toNat)
 case atStart => exact ⟨0, _, Nat.zero_le _, rfl, rfl, Below_alloc _ _, blk_new _ _⟩
 case round =>
  obtain ⟨k, m, hk, rfl, rfl, hb, hblk⟩ := hrel
  have HB := HV.out.below hb
  have hsz := lt_of_block hblk
  by_cases hlt : k < site.formats.length
  ·obtain ⟨_, a', cap', ea, hc⟩ := HB.f
   obtain ⟨rfl, -, rfl⟩ := Value.slice.inj ea
   obtain ⟨b, off, rfl, hcell, hcell2⟩ := hc k hlt
   obtain ⟨hk1, hk2⟩ := HE.out k hlt
   clear hc ea HB
   have HBLK := Lib.hid hblk
   clear hblk
   go_wp2_with fail
   go_roundw
   case rel =>
    refine ⟨k + 1, _, by omega, by go_num, rfl, hb.alloc hb.size _, ?_⟩
    rw [Below.heap_alloc _ _ _ hsz]; exact HBLK.out
   case measure => simp [intOf]; omega
  ·have hc0 : wr.cell? ⟨w.heap.size, 0, none⟩ = some vl := by simp [World.cell?, hblk]
   have hc1 : wr.cell? ⟨w.heap.size, 1, none⟩ = some vd := by simp [World.cell?, hblk]
   have hc3 : wr.cell? ⟨w.heap.size, 3, none⟩ = some vc := by simp [World.cell?, hblk]
   have H1 := c_few site.languages vl wr HB.l F1.out
   have H2 := c_few site.disabled vd wr HB.d F2.out
   have H3 := c_few site.content vc wr HB.c F4.out
   have H1' := Lib.hid H1
   have H2' := Lib.hid H2
   have H3' := Lib.hid H3
   clear H1 H2 H3 HB hblk
   by_cases h2 : m <= 2000
   ·cases e1 : fewL site.languages with
    | false =>
     rw [e1] at H1'
     go_wp2_with fail
     refine H1'.out.mono ?_; rintro e w' ⟨rfl, rfl⟩
     go_wp2_with fail
     go_ret
     exact ⟨rfl, hb⟩
    | true =>
     rw [e1] at H1'
     cases e2 : fewL site.disabled with
     | false =>
      rw [e2] at H2'
      go_wp2_with fail
      refine H1'.out.mono ?_; rintro e w' ⟨rfl, rfl⟩
      go_wp2_with fail
      refine H2'.out.mono ?_; rintro e w' ⟨rfl, rfl⟩
      go_wp2_with fail
      go_ret
      exact ⟨rfl, hb⟩
     | true =>
      have e3 : fewL site.content = false := by rw [e1, e2] at hfew; exact hfew
      rw [e2] at H2'
      rw [e3] at H3'
      go_wp2_with fail
      refine H1'.out.mono ?_; rintro e w' ⟨rfl, rfl⟩
      go_wp2_with fail
      refine H2'.out.mono ?_; rintro e w' ⟨rfl, rfl⟩
      go_wp2_with fail
      refine H3'.out.mono ?_; rintro e w' ⟨rfl, rfl⟩
      go_wp2_with fail
      go_ret
      exact ⟨rfl, hb⟩
   ·go_wp2_with fail
    go_ret
    exact ⟨rfl, hb⟩

end Go.Proofs.YtjkecadfakjanaaGreatDoor

namespace Go.Proofs.YtjkecadfakjanaaGreatDoor
open Go.RowKit
attribute [local go_sem] B_extract B_toList B_append
/-- Two lists that read alike are equal. -/
theorem c_texts (l : List Str) (v v' : Value) (w : World) (hv : StrsAt w v l) (hv' : StrsAt w v' l) :
  Calls Tryz.prog 18 #[v, v'] w fun e w' => e = .returned (.bool true) /\ ∃ n, w' = w.drewN n := by
 obtain ⟨h0, a, cap, rfl, hc⟩ := hv
 obtain ⟨_, a', cap', rfl, hc'⟩ := hv'
 have HC := Lib.hid hc
 have HC' := Lib.hid hc'
 clear hc hc'
 go_enter Tryz.func18, Tryz.ntmps18
 go_wp2
 go_loopw [13] (fun i wr => ∃ k n : Nat, k <= l.length /\ i = .int .i64 k /\ w.drewN n = wr) (fun i _ => l.length - (intOf i).toNat)
 case atStart => exact ⟨0, 0, Nat.zero_le _, rfl, rfl⟩
 case round =>
  obtain ⟨k, n, hk, rfl, rfl⟩ := hrel
  by_cases hlt : k < l.length
  ·obtain ⟨b, off, rfl, hcell⟩ := HC.out k hlt
   obtain ⟨b', off', rfl, hcell'⟩ := HC'.out k hlt
   have he : (l[k] != l[k]) = false := by simp
   have h1 : (0 : Int) <= (k : Int) := by omega
   have h2 : (k : Int) < (l.length : Int) := by omega
   go_upto_region 6 with fail
   go_quiet (fail)
   go_wp2_with fail
   go_roundw
   case rel => exact ⟨k + 1, _, by omega, by go_num, rfl⟩
   case measure => simp [intOf]; omega
  ·go_wp2
   go_ret
   exact ⟨rfl, n, rfl⟩

end Go.Proofs.YtjkecadfakjanaaGreatDoor

namespace Go.Proofs.YtjkecadfakjanaaGreatDoor
open Go.RowKit

theorem wpList_load_g {P : Program} {ops : Array Oper} {rest : List Oper} {op : Oper} {a : Act} {w : World} {Q : Exit -> Act -> World -> Prop} (hw : Region.wanted op (yielded ops a.tmps) = true) (ty : TypeId) (x : Operand) (ho : op.op = .load ty x)
  (b o : Nat) (hx : a.eval x = .pointer (some ⟨b, o, none⟩)) (cs : List Value) (d : TypeDesc) (hc : w.rangeAt b o cs) (hu : P.underlying ty = some d) (hd : d.isRow = true) (hi : (P.info? ty).map (·.size) = some cs.length)
  (h : wpList P ops Q rest (a.put op.dst (.agg cs.toArray)) w) : wpList P ops Q (op :: rest) a w :=
 BigFrame.wpList_want hw fun _ hK => wp_load_mid ty x ho b o hx cs d hc hu hd hi (hK _ _ h)
theorem range_blk {w : World} {g : Nat} {cs : Array Value} {t : TypeId} (h : w.heap[g]? = some (.cells cs t (0, 0))) : w.rangeAt g 0 cs.toList := by
 intro j v hj
 rw [Nat.zero_add, cell_blk h, <- hj, Array.getElem?_toList]
theorem blk_snd (w : World) (a b : Obj) : ((w.alloc a).alloc b).heap[w.heap.size + 1]? = some b := by
 have := blk_new (w.alloc a) b
 rw [show (w.alloc a).heap.size = w.heap.size + 1 by simp] at this
 exact this

end Go.Proofs.YtjkecadfakjanaaGreatDoor
