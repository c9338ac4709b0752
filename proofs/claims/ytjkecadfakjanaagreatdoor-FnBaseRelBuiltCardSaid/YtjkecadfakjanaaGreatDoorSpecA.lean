/- The reference's small text functions walked: holds, starts, wrapped, lastPart, PathOf, siteWord, siteWords, SiteKnown. Conditions: texts of at most 2^40 bytes; lists in memory that read as given. -/
import Derived.Test.YtjkecadfakjanaaGreatDoorSkip
set_option maxRecDepth 100000
set_option linter.unusedVariables false
set_option linter.unusedSimpArgs false
namespace Go.Proofs.YtjkecadfakjanaaGreatDoor
open Go.RowKit
attribute [local go_sem] B_extract B_toList B_append

theorem holds_hit {s p : Str} {k : Nat} (h : (s.drop k).take p.length = p) : (idx? p (s.drop k)).isSome = true := by
 have : p.isPrefixOf (s.drop k) = true := by
  rw [List.isPrefixOf_iff_prefix, List.prefix_iff_eq_take]; exact h.symm
 rw [idx?_hit this]; rfl
set_option maxHeartbeats 1000000 in
theorem c_holds (l sub : Str) (w : World) (hl : l.length <= 70368744177664) (hs : sub.length <= 70368744177664) :
  Calls Tryz.prog 57 #[.string (B l), .string (B sub)] w fun e w' => e = .returned (.bool (holdsL l sub)) /\ w = w' := by
 go_enter Tryz.func57, Tryz.ntmps57
 go_wp2
 go_loop [5] (fun i => ∃ k : Nat, k <= l.length /\ i = .int .i64 k /\ Hid (holdsL l sub = (idx? sub (l.drop k)).isSome)) (fun i => l.length + 1 - (intOf i).toNat)
 case atStart => exact ⟨0, Nat.zero_le _, rfl, rfl⟩
 case round =>
  obtain ⟨k, hk, rfl, hall⟩ := hrel
  by_cases hfit : k + sub.length <= l.length
  ·cases he : ((l.drop k).take sub.length == sub) with
   | true =>
    have HM := Lib.hid (holds_hit (s := l) (p := sub) (k := k) (by simpa using he))
    have h2 : ((l.drop k).take (k + sub.length - k) == sub) = true := by rw [Nat.add_sub_cancel_left]; exact he
    go_wp2_with fail
    go_ret
    exact ⟨ret_bool (by rw [hall.out, HM.out]), rfl⟩
   | false =>
    have h2 : ((l.drop k).take (k + sub.length - k) == sub) = false := by rw [Nat.add_sub_cancel_left]; exact he
    have hne : (l.drop k).take sub.length ≠ sub := by simpa using he
    have hkl : k < l.length := by
     rcases Nat.lt_or_ge k l.length with h | h
     ·exact h
     ·exfalso; apply hne
      have : sub = [] := List.length_eq_zero_iff.1 (by omega)
      subst this; simp
    have hp : sub.isPrefixOf (l.drop k) = false := by rw [isPrefixOf_take (by simp; omega)]; simpa using hne
    have HM : Hid ((idx? sub (l.drop k)).isSome = (idx? sub (l.drop (k + 1))).isSome) := by
     show _ = _
     rw [idx?_miss hkl hp]
     cases idx? sub (l.drop (k + 1)) <;> rfl
    clear hp hne
    go_wp2_with fail
    go_round
    case rel => exact ⟨k + 1, by omega, by go_num, by show _ = _; rw [hall.out, HM.out]⟩
    case measure => simp [intOf]; omega
  ·have HM : Hid (idx? sub (l.drop k) = none) := idx?_short (by simp; omega)
   go_wp2_with fail
   go_ret
   exact ⟨ret_bool (by rw [hall.out, HM.out]; rfl), rfl⟩

theorem c_starts (s p : Str) (w : World) (hs : s.length <= 70368744177664) (hp : p.length <= 70368744177664) :
  Calls Tryz.prog 109 #[.string (B s), .string (B p)] w fun e w' => e = .returned (.bool (startsL s p)) /\ w = w' := by
 obtain ⟨R, hR⟩ : ∃ R, R = startsL s p := ⟨_, rfl⟩
 rw [<- hR]
 by_cases h : p.length <= s.length
 ·have HR : Hid (R = (s.take p.length == p)) := by
   show _ = _
   rw [hR]
   unfold startsL
   rw [isPrefixOf_take h]
   cases he : (s.take p.length == p) with
   | true => simpa using he
   | false => simpa using he
  clear hR
  go_enter Tryz.func109, Tryz.ntmps109
  go_wp2_with fail
  go_ret
  exact ⟨ret_bool HR.out.symm, rfl⟩
 ·have HR : Hid (R = false) := by show _ = _; rw [hR]; exact isPrefixOf_short (by omega)
  clear hR
  go_enter Tryz.func109, Tryz.ntmps109
  go_wp2_with fail
  go_ret
  exact ⟨ret_bool HR.out.symm, rfl⟩

/-- What wrapped hands back. -/
def wrapStr (word : Str) : Str := (wrapped word).getD []
def wrapOk (word : Str) : Bool := (wrapped word).isSome
set_option maxHeartbeats 400000 in
theorem c_wrapped (s : Str) (w : World) (hs : s.length <= 70368744177664) :
  Calls Tryz.prog 108 #[.string (B s)] w fun e w' => e = .returned (.tuple #[.string (B (wrapStr s)), .bool (wrapOk s)]) /\ w = w' := by
 by_cases h3 : s.length < 3
 ·have HW : Hid (wrapped s = none) := by show _ = _; unfold wrapped; rw [if_pos (.inl h3)]
  have HW2 : Hid (wrapStr s = [] /\ wrapOk s = false) := by unfold wrapStr wrapOk; rw [HW.out]; exact ⟨rfl, rfl⟩
  go_enter Tryz.func108, Tryz.ntmps108
  go_wp2_with fail
  exact bodyPost_ret (v := .tuple #[.string (B []), .bool false]) (by simp [results, Tryz.results108, go_sem]) rfl ⟨by rw [HW2.out.1, HW2.out.2], rfl⟩
 ·have h0 : 0 < s.length := by omega
  have hl : s.length - 1 < s.length := by omega
  have hidx : (s.length : Int) - 1 = ((s.length - 1 : Nat) : Int) := by omega
  by_cases h1 : s[0]? = some 95
  ·have b1 := byte_yes h0 95 95 rfl h1
   by_cases h2 : s[s.length - 1]? = some 95
   ·have b2 := byte_yes hl 95 95 rfl h2
    have HW : Hid (wrapped s = some ((s.drop 1).take (s.length - 2))) := by
     show _ = _; unfold wrapped
     rw [if_neg (by rw [List.head?_eq_getElem?, List.getLast?_eq_getElem?]; rintro (a | a | a); exact h3 a; exact a h1; exact a h2)]
    have HW2 : Hid (wrapStr s = (s.drop 1).take (s.length - 1 - 1) /\ wrapOk s = true) := by unfold wrapStr wrapOk; rw [HW.out, Nat.sub_sub]; exact ⟨rfl, rfl⟩
    clear h1 h2 HW
    go_enter Tryz.func108, Tryz.ntmps108
    go_wp2_with fail
    exact bodyPost_ret (v := .tuple #[.string (B ((s.drop 1).take (s.length - 1 - 1))), .bool true]) (by simp [results, Tryz.results108, go_sem]) rfl ⟨by rw [HW2.out.1, HW2.out.2], rfl⟩
   ·have b2 := byte_no hl 95 95 rfl h2
    have b2' : ((((B s)[s.length - 1]'(by rw [B_size]; exact hl)).toNat : Int) != 95) = true := by rw [bne, b2]; rfl
    have HW : Hid (wrapped s = none) := by
     show _ = _; unfold wrapped
     rw [if_pos (by rw [List.head?_eq_getElem?, List.getLast?_eq_getElem?]; exact .inr (.inr h2))]
    have HW2 : Hid (wrapStr s = [] /\ wrapOk s = false) := by unfold wrapStr wrapOk; rw [HW.out]; exact ⟨rfl, rfl⟩
    clear h1 h2 HW
    go_enter Tryz.func108, Tryz.ntmps108
    go_wp2_with fail
    exact bodyPost_ret (v := .tuple #[.string (B []), .bool false]) (by simp [results, Tryz.results108, go_sem]) rfl ⟨by rw [HW2.out.1, HW2.out.2], rfl⟩
  ·have b1 := byte_no h0 95 95 rfl h1
   have b1' : ((((B s)[0]'(by rw [B_size]; exact h0)).toNat : Int) != 95) = true := by rw [bne, b1]; rfl
   have HW : Hid (wrapped s = none) := by
    show _ = _; unfold wrapped
    rw [if_pos (by rw [List.head?_eq_getElem?]; exact .inr (.inl h1))]
   have HW2 : Hid (wrapStr s = [] /\ wrapOk s = false) := by unfold wrapStr wrapOk; rw [HW.out]; exact ⟨rfl, rfl⟩
   clear h1 HW
   go_enter Tryz.func108, Tryz.ntmps108
   go_wp2_with fail
   exact bodyPost_ret (v := .tuple #[.string (B []), .bool false]) (by simp [results, Tryz.results108, go_sem]) rfl ⟨by rw [HW2.out.1, HW2.out.2], rfl⟩

theorem c_lastPart (s : Str) (w : World) (hs : s.length <= 70368744177664) :
  Calls Tryz.prog 60 #[.string (B s)] w fun e w' => e = .returned (.string (B (lastPart s))) /\ w = w' := by
 have H := Lib.hid (c_slashBefore s s.length w hs (Nat.le_refl _))
 have hb := slashB_lt s s.length
 obtain ⟨R, hR⟩ : ∃ R, R = lastPart s := ⟨_, rfl⟩
 rw [<- hR]
 have HR : Hid (R = s.drop (slashB s s.length + 1).toNat) := hR
 clear hR
 generalize slashB s s.length = x at H hb HR
 have h1 : (0 : Int) <= x + 1 := by omega
 have h2 : x + 1 <= (s.length : Int) := by omega
 have h3 : IntKind.i64.wrap (x + 1) = x + 1 := by rw [IntKind.wrap_i64]; omega
 clear hb
 go_enter Tryz.func60, Tryz.ntmps60
 go_wp2_with fail
 refine H.out.mono ?_; rintro e w' ⟨rfl, rfl⟩
 go_wp2_with fail
 go_ret
 exact ⟨ret_str (by rw [HR.out]; first | rfl | (rw [List.take_of_length_le]; simp)), rfl⟩

/-! ### The words of a site -/
theorem siteWordB_int (c : UInt8) : siteWordB c = (decide ((97 : Int) <= c.toNat /\ (c.toNat : Int) <= 122) || decide ((48 : Int) <= c.toNat /\ (c.toNat : Int) <= 57) || decide ((c.toNat : Int) = 45)) := by
 unfold siteWordB
 have h1 : ∀ (a b : UInt8), decide (a <= b) = decide ((a.toNat : Int) <= (b.toNat : Int)) := fun a b => by
  rw [decide_eq_decide, UInt8.le_iff_toNat_le]; omega
 have h2 : (c == 45) = decide ((c.toNat : Int) = 45) := by
  cases he : (c == 45) with
  | true =>
   have : c = 45 := by simpa using he
   rw [this]; rfl
  | false =>
   have hne : c ≠ 45 := by simpa using he
   rw [eq_comm, decide_eq_false_iff_not]
   intro e
   exact hne (UInt8.toNat_inj.mp (by have : (45 : UInt8).toNat = 45 := rfl; omega))
 rw [h2, h1, h1, h1, h1]
 rw [Bool.eq_iff_iff]
 simp only [Bool.or_eq_true, Bool.and_eq_true, decide_eq_true_eq]
 rfl

set_option maxHeartbeats 4000000 in
theorem c_siteWord (s : Str) (w : World) (hs : s.length <= 70368744177664) :
  Calls Tryz.prog 106 #[.string (B s)] w fun e w' => e = .returned (.bool (siteWord s)) /\ w = w' := by
 obtain ⟨R, hR⟩ : ∃ R, R = siteWord s := ⟨_, rfl⟩
 rw [<- hR]
 have HR : Hid (R = (s.all siteWordB && !s.isEmpty && decide (s.length <= 20))) := hR
 clear hR
 go_enter Tryz.func106, Tryz.ntmps106
 go_wp2
 go_loop [3] (fun i => ∃ k : Nat, k <= s.length /\ i = .int .i64 k /\ Hid (s.all siteWordB = (s.drop k).all siteWordB)) (fun i => s.length - (intOf i).toNat)
 case atStart => exact ⟨0, Nat.zero_le _, rfl, rfl⟩
 case round =>
  obtain ⟨k, hk, rfl, hall⟩ := hrel
  by_cases hlt : k < s.length
  ·have hbi := siteWordB_int s[k]
   have hg := B_get s k hlt
   cases he : siteWordB s[k] with
   | true =>
    have HM := Lib.hid (all_miss (p := siteWordB) hlt he)
    rw [he] at hbi
    have hc : Hid (((97 : Int) <= ((B s)[k]'(by rw [B_size]; exact hlt)).toNat /\ (((B s)[k]'(by rw [B_size]; exact hlt)).toNat : Int) <= 122) \/ ((48 : Int) <= ((B s)[k]'(by rw [B_size]; exact hlt)).toNat /\ (((B s)[k]'(by rw [B_size]; exact hlt)).toNat : Int) <= 57) \/ (((B s)[k]'(by rw [B_size]; exact hlt)).toNat : Int) = 45) := by
     rw [hg]
     have := hbi.symm
     simp only [Bool.or_eq_true, decide_eq_true_eq] at this
     exact or_assoc.1 this
    clear he hbi hg
    go_wp2
    all_goals first
     | (exfalso; have h := hc.out; simp only [beq_iff_eq, bne_iff_ne, ne_eq, beq_eq_false_iff_ne, bne_eq_false_iff_eq] at *; omega)
     | (go_round
        case rel => exact ⟨k + 1, by omega, by go_num, hall.out.trans HM.out⟩
        case measure => simp [intOf]; omega)
   | false =>
    have HM := Lib.hid (all_hit (p := siteWordB) hlt he)
    rw [he] at hbi
    have hc : Hid (¬ ((97 : Int) <= ((B s)[k]'(by rw [B_size]; exact hlt)).toNat /\ (((B s)[k]'(by rw [B_size]; exact hlt)).toNat : Int) <= 122) /\ ¬ ((48 : Int) <= ((B s)[k]'(by rw [B_size]; exact hlt)).toNat /\ (((B s)[k]'(by rw [B_size]; exact hlt)).toNat : Int) <= 57) /\ ¬ (((B s)[k]'(by rw [B_size]; exact hlt)).toNat : Int) = 45) := by
     rw [hg]
     have := hbi.symm
     simp only [Bool.or_eq_false_iff, decide_eq_false_iff_not] at this
     exact ⟨this.1.1, this.1.2, this.2⟩
    clear he hbi hg
    go_wp2
    all_goals first
     | (exfalso; have h := hc.out; simp only [beq_iff_eq, bne_iff_ne, ne_eq, beq_eq_false_iff_ne, bne_eq_false_iff_eq] at *; omega)
     | (go_ret; exact ⟨ret_bool (by rw [HR.out, hall.out, HM.out]; rfl), rfl⟩)
  ·have HM : Hid ((s.drop k).all siteWordB = true) := by show _ = _; rw [List.drop_of_length_le (by omega)]; rfl
   cases he : s.isEmpty with
   | true =>
    go_wp2_with fail
    go_ret
    exact ⟨ret_bool (by rw [HR.out, hall.out, HM.out, he]; rfl), rfl⟩
   | false =>
    by_cases h20 : s.length <= 20
    ·go_wp2_with fail
     go_ret
     exact ⟨ret_bool (by rw [HR.out, hall.out, HM.out, he]; simp; omega), rfl⟩
    ·go_wp2_with fail
     go_ret
     exact ⟨ret_bool (by rw [HR.out, hall.out, HM.out, he]; simp; omega), rfl⟩

end Go.Proofs.YtjkecadfakjanaaGreatDoor
