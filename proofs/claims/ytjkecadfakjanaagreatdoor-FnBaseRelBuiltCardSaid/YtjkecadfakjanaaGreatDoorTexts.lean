/- Contracts of Go's HasPrefix, HasSuffix, TrimPrefix, TrimSuffix and LastIndex at one byte, and of the package's zzCount at one byte, zzContains, isCustomWrapperIdentifier and parsePrefixIdentifier. Conditions: texts of at most 2^46 bytes; parsePrefixIdentifier: ASCII. -/
import Derived.Test.YtjkecadfakjanaaGreatDoorParser
set_option maxRecDepth 100000
set_option linter.unusedVariables false
set_option linter.unusedSimpArgs false
namespace Go.Proofs.YtjkecadfakjanaaGreatDoor
open Go.RowKit
attribute [local go_sem] B_extract B_toList B_append

theorem isSuffixOf_drop {s p : Str} (h : p.length <= s.length) : p.isSuffixOf s = decide (s.drop (s.length - p.length) = p) := by
 rw [Bool.eq_iff_iff, List.isSuffixOf_iff_suffix, decide_eq_true_iff, List.suffix_iff_eq_drop]
 exact ⟨fun h => h.symm, fun h => h.symm⟩
theorem isSuffixOf_short {s p : Str} (h : s.length < p.length) : p.isSuffixOf s = false := by
 cases e : p.isSuffixOf s with
 | false => rfl
 | true => have := (List.isSuffixOf_iff_suffix.1 e).length_le; omega

set_option maxHeartbeats 400000 in
theorem c_hasPrefix0 (s p : Str) (w : World) (hs : s.length <= 70368744177664) :
  Calls Tryz.prog 153 #[.string (B s), .string (B p)] w fun e w' => e = .returned (.bool (p.isPrefixOf s)) /\ w = w' := by
 by_cases h : p.length <= s.length
 ·have HM := Lib.hid (isPrefixOf_take h)
  cases hb : (s.take p.length == p) with
  | true =>
   have HQ : Hid (p.isPrefixOf s = true) := by show _ = _; rw [HM.out]; simpa using hb
   go_enter Tryz.func153, Tryz.ntmps153
   go_wp2_with fail
   go_ret
   exact ⟨ret_bool HQ.out.symm, rfl⟩
  | false =>
   have HQ : Hid (p.isPrefixOf s = false) := by show _ = _; rw [HM.out]; simpa using hb
   go_enter Tryz.func153, Tryz.ntmps153
   go_wp2_with fail
   go_ret
   exact ⟨ret_bool HQ.out.symm, rfl⟩
 ·have HQ := Lib.hid (isPrefixOf_short (s := s) (sub := p) (by omega))
  go_enter Tryz.func153, Tryz.ntmps153
  go_wp2_with fail
  go_ret
  exact ⟨ret_bool HQ.out.symm, rfl⟩

theorem c_hasPrefix (s p : Str) (w : World) (hs : s.length <= 70368744177664) :
  Calls Tryz.prog 140 #[.string (B s), .string (B p)] w fun e w' => e = .returned (.bool (p.isPrefixOf s)) /\ w = w' := by
 have H := Lib.hid (c_hasPrefix0 s p w hs)
 generalize p.isPrefixOf s = r at H |-
 go_enter Tryz.func140, Tryz.ntmps140
 go_wp2_with fail
 refine H.out.mono ?_; rintro e w' ⟨rfl, rfl⟩
 go_wp2_with fail
 go_ret
 exact ⟨rfl, rfl⟩

set_option maxHeartbeats 400000 in
theorem c_hasSuffix0 (s p : Str) (w : World) (hs : s.length <= 70368744177664) :
  Calls Tryz.prog 135 #[.string (B s), .string (B p)] w fun e w' => e = .returned (.bool (p.isSuffixOf s)) /\ w = w' := by
 by_cases h : p.length <= s.length
 ·have HM := Lib.hid (isSuffixOf_drop h)
  have hi : (p.length : Int) <= (s.length : Int) := by omega
  have e2 : s.length - (s.length - p.length) = p.length := by omega
  have e3 : (s.drop (s.length - p.length)).take p.length = s.drop (s.length - p.length) := List.take_of_length_le (by simp; omega)
  cases hb : ((s.drop (s.length - p.length)).take (s.length - (s.length - p.length)) == p) with
  | true =>
   have HQ : Hid (p.isSuffixOf s = true) := by show _ = _; rw [HM.out]; rw [e2, e3] at hb; simpa using hb
   clear e2 e3
   go_enter Tryz.func135, Tryz.ntmps135
   go_wp2_with fail
   go_ret
   exact ⟨ret_bool HQ.out.symm, rfl⟩
  | false =>
   have HQ : Hid (p.isSuffixOf s = false) := by show _ = _; rw [HM.out]; rw [e2, e3] at hb; simpa using hb
   clear e2 e3
   go_enter Tryz.func135, Tryz.ntmps135
   go_wp2_with fail
   go_ret
   exact ⟨ret_bool HQ.out.symm, rfl⟩
 ·have HQ := Lib.hid (isSuffixOf_short (s := s) (p := p) (by omega))
  go_enter Tryz.func135, Tryz.ntmps135
  go_wp2_with fail
  go_ret
  exact ⟨ret_bool HQ.out.symm, rfl⟩

theorem c_hasSuffix (s p : Str) (w : World) (hs : s.length <= 70368744177664) :
  Calls Tryz.prog 102 #[.string (B s), .string (B p)] w fun e w' => e = .returned (.bool (p.isSuffixOf s)) /\ w = w' := by
 have H := Lib.hid (c_hasSuffix0 s p w hs)
 generalize p.isSuffixOf s = r at H |-
 go_enter Tryz.func102, Tryz.ntmps102
 go_wp2_with fail
 refine H.out.mono ?_; rintro e w' ⟨rfl, rfl⟩
 go_wp2_with fail
 go_ret
 exact ⟨rfl, rfl⟩

def trimPreG (s p : Str) : Str := if p.isPrefixOf s then s.drop p.length else s
def trimSufG (s p : Str) : Str := if p.isSuffixOf s then s.take (s.length - p.length) else s

theorem c_trimPrefix (s p : Str) (w : World) (hs : s.length <= 70368744177664) :
  Calls Tryz.prog 103 #[.string (B s), .string (B p)] w fun e w' => e = .returned (.string (B (trimPreG s p))) /\ w = w' := by
 have H := Lib.hid (c_hasPrefix0 s p w hs)
 have HR : Hid (trimPreG s p = if p.isPrefixOf s then s.drop p.length else s) := rfl
 cases hp : p.isPrefixOf s with
 | true =>
  have hle : p.length <= s.length := (List.isPrefixOf_iff_prefix.1 hp).length_le
  have HQ : Hid (trimPreG s p = s.drop p.length) := by show _ = _; rw [HR.out, if_pos hp]
  have HJ := Lib.hid hp
  generalize trimPreG s p = r at HQ |-
  clear hp HR
  go_enter Tryz.func103, Tryz.ntmps103
  go_wp2_with (go_at_call 136; go_in)
  refine H.out.mono ?_; rintro e w' ⟨rfl, rfl⟩
  rw [HJ.out]
  go_wp2_with fail
  go_ret
  exact ⟨ret_str (by rw [HQ.out]; first | rfl | (rw [List.take_of_length_le (by simp)])), rfl⟩
 | false =>
  have HQ : Hid (trimPreG s p = s) := by show _ = _; rw [HR.out, if_neg (by rw [hp]; decide)]
  have HJ := Lib.hid hp
  generalize trimPreG s p = r at HQ |-
  clear hp HR
  go_enter Tryz.func103, Tryz.ntmps103
  go_wp2_with (go_at_call 136; go_in)
  refine H.out.mono ?_; rintro e w' ⟨rfl, rfl⟩
  rw [HJ.out]
  go_wp2_with fail
  go_ret
  exact ⟨ret_str HQ.out.symm, rfl⟩

theorem c_trimSuffix (s p : Str) (w : World) (hs : s.length <= 70368744177664) :
  Calls Tryz.prog 116 #[.string (B s), .string (B p)] w fun e w' => e = .returned (.string (B (trimSufG s p))) /\ w = w' := by
 have H := Lib.hid (c_hasSuffix0 s p w hs)
 have HR : Hid (trimSufG s p = if p.isSuffixOf s then s.take (s.length - p.length) else s) := rfl
 cases hp : p.isSuffixOf s with
 | true =>
  have hle : p.length <= s.length := (List.isSuffixOf_iff_suffix.1 hp).length_le
  have hle' : (p.length : Int) <= (s.length : Int) := by omega
  have HQ : Hid (trimSufG s p = s.take (s.length - p.length)) := by show _ = _; rw [HR.out, if_pos hp]
  have HJ := Lib.hid hp
  generalize trimSufG s p = r at HQ |-
  clear hp HR
  go_enter Tryz.func116, Tryz.ntmps116
  go_wp2_with (go_at_call 137; go_in)
  refine H.out.mono ?_; rintro e w' ⟨rfl, rfl⟩
  rw [HJ.out]
  go_wp2_with fail
  go_ret
  exact ⟨ret_str (by rw [HQ.out]), rfl⟩
 | false =>
  have HQ : Hid (trimSufG s p = s) := by show _ = _; rw [HR.out, if_neg (by rw [hp]; decide)]
  have HJ := Lib.hid hp
  generalize trimSufG s p = r at HQ |-
  clear hp HR
  go_enter Tryz.func116, Tryz.ntmps116
  go_wp2_with (go_at_call 137; go_in)
  refine H.out.mono ?_; rintro e w' ⟨rfl, rfl⟩
  rw [HJ.out]
  go_wp2_with fail
  go_ret
  exact ⟨ret_str HQ.out.symm, rfl⟩

/-! ### LastIndex at a slash -/
theorem slashB_hit {s : Str} {k : Nat} (h : k < s.length) (e : s[k] = 47) : slashB s (k + 1) = k := by
 simp [slashB, h, e]
theorem slashB_miss {s : Str} {k : Nat} (h : k < s.length) (e : s[k] ≠ 47) : slashB s (k + 1) = slashB s k := by
 simp [slashB, h, e]

set_option maxHeartbeats 400000 in
theorem c_lastIndexByte (s : Str) (w : World) (hs : s.length <= 70368744177664) :
  Calls Tryz.prog 161 #[.string (B s), .int .u8 47] w fun e w' => e = .returned (.int .i64 (slashB s s.length)) /\ w = w' := by
 go_enter Tryz.func161, Tryz.ntmps161
 go_wp2_with fail
 go_loop [5] (fun i => ∃ k : Nat, k <= s.length /\ i = .int .i64 ((k : Int) - 1) /\ Hid (slashB s s.length = slashB s k)) (fun i => (intOf i + 1).toNat)
 case atStart => exact ⟨s.length, Nat.le_refl _, rfl, rfl⟩
 case round =>
  obtain ⟨k, hk, rfl, hall⟩ := hrel
  cases k with
  | zero =>
   go_wp2_with fail
   go_ret
   exact ⟨ret_i64 (by rw [hall.out]; rfl), rfl⟩
  | succ k =>
   have hlt : k < s.length := by omega
   by_cases he : s[k] = 47
   ·have HM := Lib.hid (slashB_hit hlt he)
    have hb : (((B s)[k]'(by rw [B_size]; exact hlt)).toNat : Int) = 47 := by rw [B_get, he]; rfl
    clear he
    go_wp2_with fail
    go_ret
    exact ⟨ret_i64 (by rw [hall.out, HM.out]), rfl⟩
   ·have HM := Lib.hid (slashB_miss hlt he)
    have hb : ((((B s)[k]'(by rw [B_size]; exact hlt)).toNat : Int) == 47) = false := by
     rw [B_get, beq_eq_false_iff_ne]
     intro e
     exact he (UInt8.toNat_inj.mp (by have : (47 : UInt8).toNat = 47 := rfl; omega))
    clear he
    go_wp2_with fail
    go_round
    case rel => exact ⟨k, by omega, by simp, hall.out.trans HM.out⟩
    case measure => (simp [intOf]; try omega)

theorem c_lastIndex (s : Str) (w : World) (hs : s.length <= 70368744177664) :
  Calls Tryz.prog 142 #[.string (B s), .string (B [47])] w fun e w' => e = .returned (.int .i64 (slashB s s.length)) /\ w = w' := by
 have H := Lib.hid (c_lastIndexByte s w hs)
 generalize slashB s s.length = r at H |-
 go_enter Tryz.func142, Tryz.ntmps142
 go_wp2_with fail
 refine H.out.mono ?_; rintro e w' ⟨rfl, rfl⟩
 go_wp2_with fail
 go_ret
 exact ⟨rfl, rfl⟩

set_option maxHeartbeats 400000 in
/-- The reference's slashBefore: -1 at -1 and below. -/
theorem c_slashBefore (s : Str) (n : Nat) (w : World) (hs : s.length <= 70368744177664) (hn : n <= s.length) :
  Calls Tryz.prog 110 #[.string (B s), .int .i64 n] w fun e w' => e = .returned (.int .i64 (slashB s n)) /\ w = w' := by
 go_enter Tryz.func110, Tryz.ntmps110
 go_wp2_with fail
 go_loop [5] (fun i => ∃ k : Nat, k <= n /\ i = .int .i64 ((k : Int) - 1) /\ Hid (slashB s n = slashB s k)) (fun i => (intOf i + 1).toNat)
 case atStart => exact ⟨n, Nat.le_refl _, rfl, rfl⟩
 case round =>
  obtain ⟨k, hk, rfl, hall⟩ := hrel
  cases k with
  | zero =>
   go_wp2_with fail
   go_ret
   exact ⟨ret_i64 (by rw [hall.out]; rfl), rfl⟩
  | succ k =>
   have hlt : k < s.length := by omega
   by_cases he : s[k] = 47
   ·have HM := Lib.hid (slashB_hit hlt he)
    have hb : (((B s)[k]'(by rw [B_size]; exact hlt)).toNat : Int) = 47 := by rw [B_get, he]; rfl
    clear he
    go_wp2_with fail
    go_ret
    exact ⟨ret_i64 (by rw [hall.out, HM.out]), rfl⟩
   ·have HM := Lib.hid (slashB_miss hlt he)
    have hb : ((((B s)[k]'(by rw [B_size]; exact hlt)).toNat : Int) == 47) = false := by
     rw [B_get, beq_eq_false_iff_ne]
     intro e
     exact he (UInt8.toNat_inj.mp (by have : (47 : UInt8).toNat = 47 := rfl; omega))
    clear he
    go_wp2_with fail
    go_round
    case rel => exact ⟨k, by omega, by simp, hall.out.trans HM.out⟩
    case measure => (simp [intOf]; try omega)

/-! ### zzCount at a point -/
theorem take1_eq {s : Str} {k : Nat} (h : k < s.length) (c : UInt8) : ((s.drop k).take 1 == [c]) = (s[k] == c) := by
 rw [drop_cons h, List.take_succ_cons, List.take_zero, List.cons_beq_cons]
 cases s[k] == c <;> rfl

set_option maxHeartbeats 1000000 in
theorem c_zzCount (s : Str) (w : World) (hs : s.length <= 70368744177664) :
  Calls Tryz.prog 143 #[.string (B s), .string (B [46])] w fun e w' => e = .returned (.int .i64 (countDots s)) /\ w = w' := by
 go_enter Tryz.func143, Tryz.ntmps143
 go_wp2_with fail
 go_loop [5, 6] (fun n i => ∃ k m : Nat, k <= s.length /\ m <= k /\ i = .int .i64 k /\ n = .int .i64 m /\ Hid (m = countDots (s.take k))) (fun _ i => s.length - (intOf i).toNat)
 case atStart => exact ⟨0, 0, Nat.zero_le _, Nat.le_refl _, rfl, rfl, rfl⟩
 case round =>
  obtain ⟨k, m, hk, hmk, rfl, rfl, hm⟩ := hrel
  by_cases hlt : k < s.length
  ·have h1 := take1_eq hlt 46
   have HT : Hid (countDots (s.take (k + 1)) = countDots (s.take k) + if s[k] == 46 then 1 else 0) := by
    show _ = _
    unfold countDots
    rw [List.take_succ_eq_append_getElem hlt, List.countP_append]
    simp [List.countP_cons]
   cases he : (s[k] == 46) with
   | true =>
    rw [he] at h1
    have HT2 : Hid (countDots (s.take (k + 1)) = countDots (s.take k) + 1) := by show _ = _; rw [HT.out, he]; rfl
    clear he HT
    go_wp2_with fail
    go_round
    case rel => exact ⟨k + 1, m + 1, by omega, by omega, by go_num, by go_num, by show _ = _; rw [HT2.out, hm.out]⟩
    case measure => simp [intOf]; omega
   | false =>
    rw [he] at h1
    have HT2 : Hid (countDots (s.take (k + 1)) = countDots (s.take k)) := by show _ = _; rw [HT.out, he]; rfl
    clear he HT
    go_wp2_with fail
    go_round
    case rel => exact ⟨k + 1, m, by omega, by omega, by go_num, rfl, by show _ = _; rw [HT2.out, hm.out]⟩
    case measure => simp [intOf]; omega
  ·have HM : Hid (m = countDots s) := by show _ = _; rw [hm.out, List.take_of_length_le (by omega)]
   go_wp2_with fail
   go_ret
   exact ⟨ret_i64 (by rw [HM.out]), rfl⟩

theorem c_zzContains (l p : Str) (w : World) (hl : l.length <= 70368744177664) (hs : p.length <= 70368744177664) :
  Calls Tryz.prog 144 #[.string (B l), .string (B p)] w fun e w' => e = .returned (.bool (holdsL l p)) /\ w = w' := by
 have H := Lib.hid (c_zzIndex l p w hl hs)
 have hx : indexL l p = -1 /\ holdsL l p = false \/ 0 <= indexL l p /\ holdsL l p = true := by
  unfold indexL holdsL; cases idx? p l <;> simp
 generalize indexL l p = n at H hx
 generalize holdsL l p = r at hx |-
 rcases hx with ⟨rfl, rfl⟩ | ⟨h1, rfl⟩
 all_goals
  go_enter Tryz.func144, Tryz.ntmps144
  go_wp2_with fail
  refine H.out.mono ?_; rintro e w' ⟨rfl, rfl⟩
  go_wp2_with fail
  go_ret
  first | exact ⟨rfl, rfl⟩ | exact ⟨ret_bool (by simpa using h1), rfl⟩

set_option maxHeartbeats 400000 in
theorem c_isWrap (s : Str) (w : World) (hs : s.length <= 70368744177664) :
  Calls Tryz.prog 163 #[.string (B s)] w fun e w' => e = .returned (.bool (isWrap s)) /\ w = w' := by
 have H1 := Lib.hid (c_hasPrefix s [95] w hs)
 have H2 := Lib.hid (c_hasSuffix s [95] w hs)
 have HR : Hid (isWrap s = (decide (2 < s.length) && List.isPrefixOf [95] s && List.isSuffixOf [95] s)) := rfl
 generalize isWrap s = r at HR |-
 by_cases h1 : 2 < s.length
 ·cases h2 : List.isPrefixOf [95] s with
  | false =>
   have HQ : Hid (r = false) := by show _ = _; rw [HR.out, h2]; simp
   have HJ := Lib.hid h2
   clear h2 HR
   go_enter Tryz.func163, Tryz.ntmps163
   go_wp2_with fail
   refine H1.out.mono ?_; rintro e w' ⟨rfl, rfl⟩
   rw [HJ.out]
   go_wp2_with fail
   go_ret
   exact ⟨ret_bool HQ.out.symm, rfl⟩
  | true =>
   have HQ : Hid (r = List.isSuffixOf [95] s) := by show _ = _; rw [HR.out, h2]; simp [h1]
   have HJ := Lib.hid h2
   clear h2 HR
   go_enter Tryz.func163, Tryz.ntmps163
   go_wp2_with fail
   refine H1.out.mono ?_; rintro e w' ⟨rfl, rfl⟩
   rw [HJ.out]
   go_wp2_with fail
   refine H2.out.mono ?_; rintro e w' ⟨rfl, rfl⟩
   go_wp2_with fail
   go_ret
   exact ⟨ret_bool (by have := HQ.out; simpa using this.symm), rfl⟩
 ·have HQ : Hid (r = false) := by have e := HR.out; rw [decide_eq_false h1] at e; exact e
  clear HR
  go_enter Tryz.func163, Tryz.ntmps163
  go_wp2_with fail
  go_ret
  exact ⟨ret_bool HQ.out.symm, rfl⟩

theorem firstPrefix_hit {l : Str} {ps : List Str} {k : Nat} (h : k < ps.length) (e : ps[k].isPrefixOf l = true) : firstPrefix l (ps.drop k) = ps[k] := by
 rw [drop_cons h, firstPrefix, if_pos e]
theorem firstPrefix_miss {l : Str} {ps : List Str} {k : Nat} (h : k < ps.length) (e : ps[k].isPrefixOf l = false) : firstPrefix l (ps.drop k) = firstPrefix l (ps.drop (k + 1)) := by
 rw [drop_cons h, firstPrefix, e]; rfl

set_option maxHeartbeats 1000000 in
theorem c_parsePrefix (s : Str) (w : World) (hs : s.length <= 70368744177664) (ha : asciiL s = true) :
  Calls Tryz.prog 164 #[.string (B s)] w fun e w' => e = .returned (.string (B (parsePrefixM s))) /\ Below w.heap.size w w' := by
 have HL := Lib.hid (toLower_calls s w hs ha)
 have hll : (lowerL s).length <= 70368744177664 := by simpa [lowerL, Lib.toLowerA] using hs
 have HR : Hid (parsePrefixM s = firstPrefix (lowerL s) (prefixList.drop 0)) := rfl
 generalize parsePrefixM s = r at HR |-
 generalize lowerL s = l at HL HR hll
 clear ha
 go_enter Tryz.func164, Tryz.ntmps164
 go_wp2_with fail
 refine HL.out.mono ?_; rintro e w1 ⟨rfl, hb1⟩
 go_wp2_with fail
 have hcells : Hid (∀ k (h : k < prefixList.length), (w1.alloc (.cells #[.string (B pLanguage), .string (B pVersion), .string (B pRole), .string (B pFormat), .string (B pKind), .string (B pLayout)] 9)).cell? ⟨w1.heap.size, k, none⟩ = some (.string (B prefixList[k]))) := by
  intro k h
  have hn := blk_new w1 (.cells #[.string (B pLanguage), .string (B pVersion), .string (B pRole), .string (B pFormat), .string (B pKind), .string (B pLayout)] 9)
  match k, h with
  | 0, _ => exact (cell_blk hn 0).trans rfl
  | 1, _ => exact (cell_blk hn 1).trans rfl
  | 2, _ => exact (cell_blk hn 2).trans rfl
  | 3, _ => exact (cell_blk hn 3).trans rfl
  | 4, _ => exact (cell_blk hn 4).trans rfl
  | 5, _ => exact (cell_blk hn 5).trans rfl
 have hb2 := belowThen hb1 (Below_alloc w1 (.cells #[.string (B pLanguage), .string (B pVersion), .string (B pRole), .string (B pFormat), .string (B pKind), .string (B pLayout)] 9)) (Nat.le_refl _)
 generalize w1.alloc (.cells #[.string (B pLanguage), .string (B pVersion), .string (B pRole), .string (B pFormat), .string (B pKind), .string (B pLayout)] 9) = w2 at hcells hb2 |-
 clear hb1
 have hpl : Hid (prefixList.length = 6) := rfl
 have hshort : Hid (∀ k (h : k < prefixList.length), (prefixList[k]).length <= 20) := fun k h => by
  have : ∀ x ∈ prefixList, x.length <= 20 := by decide
  exact this _ (List.getElem_mem h)
 go_loop [10] (fun i => ∃ k : Nat, k <= 6 /\ i = .int .i64 k /\ Hid (r = firstPrefix l (prefixList.drop k))) (fun i => 6 - (intOf i).toNat)
 case atStart => exact ⟨0, Nat.zero_le _, rfl, HR.out⟩
 case round =>
  obtain ⟨k, hk, rfl, hall⟩ := hrel
  by_cases hlt : k < 6
  ·have hlt' : k < prefixList.length := by have := hpl.out; omega
   have hcell := hcells.out k hlt'
   have HP := Lib.hid (fun w => c_hasPrefix l prefixList[k] w hll)
   cases he : prefixList[k].isPrefixOf l with
   | true =>
    have HM := Lib.hid (firstPrefix_hit hlt' he)
    have HE := Lib.hid he
    clear he
    generalize prefixList[k] = p at hcell HP HM HE
    go_wp2_with fail
    refine (HP.out _).mono ?_; rintro e w' ⟨rfl, rfl⟩
    rw [HE.out]
    go_wp2_with fail
    go_ret
    exact ⟨ret_str (by rw [hall.out, HM.out]), hb2⟩
   | false =>
    have HM := Lib.hid (firstPrefix_miss hlt' he)
    have HE := Lib.hid he
    clear he
    generalize prefixList[k] = p at hcell HP HE
    go_wp2_with fail
    refine (HP.out _).mono ?_; rintro e w' ⟨rfl, rfl⟩
    rw [HE.out]
    go_wp2_with fail
    go_round
    case rel => exact ⟨k + 1, by omega, by go_num, hall.out.trans HM.out⟩
    case measure => simp [intOf]; omega
  ·have HM : Hid (r = []) := by
    show _ = _
    have : k = 6 := by omega
    rw [hall.out, this]; rfl
   go_wp2_with fail
   go_ret
   exact ⟨ret_str HM.out.symm, hb2⟩

end Go.Proofs.YtjkecadfakjanaaGreatDoor
