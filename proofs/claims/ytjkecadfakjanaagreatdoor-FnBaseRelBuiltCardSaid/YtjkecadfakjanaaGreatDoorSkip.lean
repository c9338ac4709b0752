/- The points within wrappers: isSkippedDot and findWrapperDotPositions walked. Conditions: a text of at most 2^40 bytes; a row of places of the call's own. -/
import Derived.Test.YtjkecadfakjanaaGreatDoorTexts
import Derived.Test.YtjkecadfakjanaaGreatDoorGet2
import Derived.Test.YtjkecadfakjanaaGreatDoorCuts
import Derived.Test.YtjkecadfakjanaaGreatDoorApply
import Derived.OwnWalk
set_option maxRecDepth 100000
set_option linter.unusedVariables false
set_option linter.unusedSimpArgs false
namespace Go.Proofs.YtjkecadfakjanaaGreatDoor
open Go.RowKit
attribute [local go_sem] B_extract B_toList B_append

def skipM : List Nat -> Nat -> Bool
 | [], _ => false
 | d :: r, i => if d = i then true else if i < d then false else skipM r i
theorem skipM_drop {l : List Nat} {k i : Nat} (h : k < l.length) : skipM (l.drop k) i = if l[k] = i then true else if i < l[k] then false else skipM (l.drop (k + 1)) i := by
 rw [List.drop_eq_getElem_cons h]; rfl

set_option maxHeartbeats 1000000 in
theorem c_isSkipped {w : World} {base : Nat} {v : Value} (l : List Nat) (h : w.ownsRow base 3 1 v l.length (natCells l)) (i : Nat) :
  Calls Tryz.prog 145 #[v, .int .i64 i] w fun e w' => e = .returned (.bool (skipM l i)) /\ w = w' := by
 obtain ⟨a, cap, rfl, hc⟩ := nats_read h
 have HC := Lib.hid hc
 have HL : Hid (l.length <= maxLen) := by
  rcases h.2 with ⟨_, e⟩ | ⟨g, cap', cur, _, _, _, h1, h2, _⟩
  ·show _ <= _; rw [e]; exact Nat.zero_le _
  ·exact Nat.le_trans h1 h2
 have hl : l.length <= 9223372036854775807 := Nat.le_trans HL.out (by decide)
 clear h hc HL
 obtain ⟨R, hR⟩ : ∃ R, R = skipM l i := ⟨_, rfl⟩
 rw [<- hR]
 have HR := Lib.hid hR
 clear hR
 go_enter Tryz.func145, Tryz.ntmps145
 go_wp2
 go_loop [9] (fun j => ∃ k : Nat, k <= l.length /\ j = .int .i64 k /\ Hid (R = skipM (l.drop k) i)) (fun j => l.length - (intOf j).toNat)
 case atStart => exact ⟨0, Nat.zero_le _, rfl, by show _ = _; rw [HR.out]; rfl⟩
 case round =>
  obtain ⟨k, hk, rfl, hall⟩ := hrel
  by_cases hlt : k < l.length
  ·obtain ⟨g, rfl, k1⟩ := HC.out k hlt
   have hs := Lib.hid (skipM_drop (i := i) hlt)
   generalize l[k] = x at k1 hs
   by_cases h1 : x = i
   ·have e1 : ((x : Int) == (i : Int)) = true := by rw [h1]; simp
    go_wp2_with fail
    go_ret
    exact ⟨ret_bool (by rw [hall.out, hs.out, if_pos h1]), rfl⟩
   ·have e1 : ((x : Int) == (i : Int)) = false := by rw [beq_eq_false_iff_ne]; omega
    by_cases h2 : i < x
    ·have h2' : (i : Int) < (x : Int) := by omega
     go_wp2_with fail
     go_ret
     exact ⟨ret_bool (by rw [hall.out, hs.out, if_neg h1, if_pos h2]), rfl⟩
    ·have h2' : ¬ (i : Int) < (x : Int) := by omega
     go_wp2_with fail
     go_round
     case rel => exact ⟨k + 1, by omega, by go_num, by show _ = _; rw [hall.out, hs.out, if_neg h1, if_neg h2]⟩
     case measure => simp [intOf]; omega
  ·have hz : Hid (skipM (l.drop k) i = false) := by show _ = _; rw [List.drop_of_length_le (by omega)]; rfl
   go_wp2_with fail
   go_ret
   exact ⟨ret_bool (by rw [hall.out, hz.out]), rfl⟩

/-! ### A row of places that the call has built -/
structure OwnN (w : World) (base : Nat) (v : Value) (l : List Nat) : Prop where
 own : w.ownsRow base 3 1 v l.length (natCells l)
 le : base <= w.heap.size
theorem OwnN.nil (w : World) : OwnN w w.heap.size (.slice none 0 0) [] := ⟨World.ownsRow_nil _ _ _ _, Nat.le_refl _⟩
theorem OwnN.alloc {w : World} {base : Nat} {v : Value} {l : List Nat} (h : OwnN w base v l) (o : Obj) : OwnN (w.alloc o) base v l := ⟨h.own.alloc o, by have := h.le; simp; omega⟩

theorem wpList_appN {ops : Array Oper} {rest : List Oper} {o : Oper} {a : Act} {w : World} {Q : Exit -> Act -> World -> Prop} (hgd : o.guard = none) (sl x : Operand)
  (ho : o.op = .call { callee := .builtin .append, args := #[sl, x], argTypes := #[78, 78] })
  (base : Nat) (v : Value) (l : List Nat) (n : Nat) (hs : a.eval sl = v) (hown : OwnN w base v l) (g : Nat) (hx : a.eval x = .slice (some ⟨g, 0, none⟩) 1 1) (hc : w.cell? ⟨g, 0, none⟩ = some (.int .i64 n)) (hlen : l.length <= 1000000000000)
  (h : ∀ v' w', OwnN w' base v' (l ++ [n]) -> Below base w w' -> wpList Tryz.prog ops Q rest (a.put o.dst v') w') : wpList Tryz.prog ops Q (o :: rest) a w := by
 obtain ⟨i0, hi, hz0, hz1, hz2⟩ := info_split Tryz.infoInt
 refine wpList_append_own w hgd sl x _ ho base 3 i0 _ 1 8 Tryz.underlying78 hi hz0 hz1 hz2 rfl (by decide) v l.length _ hs hown.own ⟨g, 0, none⟩ 1 1 [.int .i64 n] hx rfl ?_ ?_ ?_ (by omega) hown.le ?_
 ·intro j u hj
  match j, hj with
  | 0, hj => simp at hj; subst hj; simpa [Addr.add] using hc
 ·intro u hu; simp at hu; subst hu; rfl
 ·exact Nat.le_trans (show l.length + 1 <= 1000000000001 by omega) (by decide)
 ·intro v' w' h2 h3 _
  refine h v' w' ⟨?_, Nat.le_trans hown.le h3.size⟩ ⟨h3.os, h3.tape, h3.output, h3.size, fun k hk => h3.block k (by have := hown.le; omega) (fun e => by have := hown.own.lt k e.symm; omega)⟩
  rw [List.length_append, natCells_add]
  exact h2

theorem dotsIn_snoc (s : Str) : ∀ (n j : Nat), dotsIn s (n + 1) j = dotsIn s n j ++ (if s[j + n]? = some 46 then [j + n] else [])
 | 0, j => by simp only [dotsIn, Nat.add_zero, List.nil_append]
 | n + 1, j => by
  have ih := dotsIn_snoc s n (j + 1)
  rw [dotsIn, ih, dotsIn, show j + 1 + n = j + (n + 1) by omega]
  split <;> simp
theorem dotsIn_length (s : Str) : ∀ (n j : Nat), (dotsIn s n j).length <= n
 | 0, j => Nat.le_refl _
 | n + 1, j => by
  have ih := dotsIn_length s n (j + 1)
  unfold dotsIn
  split
  ·rw [List.length_cons]; omega
  ·omega

theorem skips_fuel (s : Str) : ∀ (n m i : Nat), s.length <= i + n -> s.length <= i + m -> skipsFrom s n i = skipsFrom s m i
 | 0, m, i, hn, hm => by
  cases m with
  | zero => rfl
  | succ m => unfold skipsFrom; rw [if_pos (by omega)]
 | n + 1, 0, i, hn, hm => by unfold skipsFrom; rw [if_pos (by omega)]
 | n + 1, m + 1, i, hn, hm => by
  unfold skipsFrom
  split
  ·rfl
  ·split
   ·split
    ·rename_i e he
     have : i + 2 <= e := by
      have : ∀ (n k : Nat) {e : Nat}, wrapEndI s n k = some e -> k <= e := by
       intro n
       induction n with
       | zero => intro k e h; cases h
       | succ n ih =>
        intro k e h
        unfold wrapEndI at h
        split at h
        ·cases h
        ·split at h
         ·have := Option.some.inj h; omega
         ·have := ih _ h; omega
      exact this _ _ he
     rw [skips_fuel s n m (e + 1) (by omega) (by omega)]
    ·exact skips_fuel s n m (i + 1) (by omega) (by omega)
   ·exact skips_fuel s n m (i + 1) (by omega) (by omega)

def skipsL (s : Str) (i : Nat) : List Nat := skipsFrom s (s.length - i) i
def endL (s : Str) (i : Nat) : Option Nat := wrapEndI s (s.length - (i + 2)) (i + 2)
theorem skipsL_end {s : Str} {i : Nat} (h : s.length <= i) : skipsL s i = [] := by
 unfold skipsL
 rw [show s.length - i = 0 by omega]; rfl
theorem skipsL_no {s : Str} {i : Nat} (h : i < s.length) (hn : (i + 2 < s.length /\ s[i]? = some 46 /\ s[i + 1]? = some 95) -> endL s i = none) : skipsL s i = skipsL s (i + 1) := by
 unfold skipsL
 rw [show s.length - i = (s.length - (i + 1)) + 1 by omega, skipsFrom, if_neg (by omega)]
 split
 ·rename_i hc
  have e := hn hc
  unfold endL at e
  rw [e]
 ·rfl
theorem skipsL_yes {s : Str} {i e : Nat} (h : i < s.length) (hc : i + 2 < s.length /\ s[i]? = some 46 /\ s[i + 1]? = some 95) (he : endL s i = some e) (hb : i + 2 <= e) : skipsL s i = dotsIn s (e - (i + 2)) (i + 2) ++ skipsL s (e + 1) := by
 unfold skipsL
 rw [show s.length - i = (s.length - (i + 1)) + 1 by omega, skipsFrom, if_neg (by omega), if_pos hc]
 unfold endL at he
 rw [he]
 show _ ++ skipsFrom s (s.length - (i + 1)) (e + 1) = _
 rw [skips_fuel s (s.length - (i + 1)) (s.length - (e + 1)) (e + 1) (by omega) (by omega)]
theorem skipsOf_L (s : Str) (h : slashB s s.length ≠ -1) : skipsOf s = skipsL s (slashB s s.length).toNat := by
 unfold skipsOf skipsL
 rw [if_neg h]
 exact skips_fuel s _ _ _ (by omega) (by omega)
theorem endI_step {s : Str} {j : Nat} (h : j < s.length) : wrapEndI s (s.length - j) j = if s[j]? = some 47 then none else if s[j]? = some 95 /\ (s.length <= j + 1 \/ s[j + 1]? = some 46) then some j else wrapEndI s (s.length - (j + 1)) (j + 1) := by
 rw [show s.length - j = (s.length - (j + 1)) + 1 by omega, wrapEndI]
theorem slashB_lt (s : Str) : ∀ k, slashB s k < (k : Int) /\ -1 <= slashB s k
 | 0 => by simp [slashB]
 | k + 1 => by
  unfold slashB
  split
  ·omega
  ·have := slashB_lt s k; omega
theorem byte_get {s : Str} {k : Nat} (h : k < s.length) : s[k]? = some s[k] := List.getElem?_eq_getElem h
theorem byte_yes {s : Str} {k : Nat} (h : k < s.length) (c : UInt8) (m : Int) (hm : (c.toNat : Int) = m) (e : s[k]? = some c) : (((B s)[k]'(by rw [B_size]; exact h)).toNat : Int) = m := by
 rw [byte_get h] at e
 rw [B_get, Option.some.inj e, hm]
theorem byte_no {s : Str} {k : Nat} (h : k < s.length) (c : UInt8) (m : Int) (hm : (c.toNat : Int) = m) (e : s[k]? ≠ some c) : ((((B s)[k]'(by rw [B_size]; exact h)).toNat : Int) == m) = false := by
 rw [B_get, beq_eq_false_iff_ne, <- hm]
 intro x
 exact e (by rw [byte_get h, UInt8.toNat_inj.mp (by omega : s[k].toNat = c.toNat)])

set_option maxHeartbeats 8000000 in
theorem c_findWrapper (s : Str) (w : World) (hs : s.length <= 1000000000) :
  Calls Tryz.prog 141 #[.string (B s)] w fun e w' => ∃ v, e = .returned v /\ OwnN w' w.heap.size v (skipsOf s) /\ Below w.heap.size w w' := by
 have HS := Lib.hid (c_lastIndex s w (by omega))
 by_cases h1 : slashB s s.length = -1
 ·have hz : Hid (skipsOf s = []) := by show _ = _; unfold skipsOf; rw [if_pos h1]
  rw [h1] at HS
  go_enter Tryz.func141, Tryz.ntmps141
  go_wp2_with fail
  refine HS.out.mono ?_; rintro e w' ⟨rfl, rfl⟩
  go_wp2_with fail
  go_ret
  exact ⟨_, rfl, by rw [hz.out]; exact OwnN.nil w, Below.refl _ _⟩
 ·have hL := Lib.hid (skipsOf_L s h1)
  obtain ⟨k0, hk0⟩ : ∃ k : Nat, slashB s s.length = k := ⟨(slashB s s.length).toNat, by have := (slashB_lt s s.length).2; omega⟩
  have hkl : k0 < s.length := by have := (slashB_lt s s.length).1; omega
  rw [hk0] at HS
  have hL2 : Hid (skipsOf s = skipsL s k0) := by show _ = _; rw [hL.out, hk0]; rfl
  have hO := Lib.hid (OwnN.nil w)
  generalize skipsOf s = SK at hL2 |-
  clear h1 hL hk0
  go_enter Tryz.func141, Tryz.ntmps141
  go_wp2_with fail
  refine HS.out.mono ?_; rintro e w' ⟨rfl, rfl⟩
  go_wp2_with fail
  clear HS
  go_loopw [4, 5] (fun s4 s5 wr => ∃ (n : Nat) (L : List Nat), n <= s.length /\ L.length <= n /\ s5 = .int .i64 n /\ OwnN wr w.heap.size s4 L /\ Below w.heap.size w wr /\ Hid (SK = L ++ skipsL s n)) (fun _ s5 _ => s.length - (intOf s5).toNat)
  case atStart => exact ⟨k0, [], by omega, Nat.zero_le _, rfl, hO.out, Below.refl _ _, hL2.out⟩
  case round =>
   obtain ⟨n, L, hn, hLn, rfl, hown, hbel, hsk⟩ := hrel
   replace hown := Lib.hid hown
   replace hbel := Lib.hid hbel
   have next : n < s.length -> skipsL s n = skipsL s (n + 1) -> ∃ (n' : Nat) (L' : List Nat), n' <= s.length /\ L'.length <= n' /\ Value.int .i64 ((n : Int) + 1) = .int .i64 n' /\ OwnN wr w.heap.size u4 L' /\ Below w.heap.size w wr /\ Hid (SK = L' ++ skipsL s n') :=
    fun h e => ⟨n + 1, L, h, by omega, by go_num, hown.out, hbel.out, by show _ = _; rw [hsk.out, e]⟩
   replace next := Lib.hid next
   by_cases hlt : n < s.length
   ·by_cases c1 : n + 2 < s.length
    ·have hn0 : n < s.length := by omega
     have hn1 : n + 1 < s.length := by omega
     by_cases c2 : s[n]? = some 46
     ·by_cases c3 : s[n + 1]? = some 95
      ·-- a wrapper may begin here
       have b2 := byte_yes hn0 46 46 rfl c2
       have b3 := byte_yes hn1 95 95 rfl c3
       have HC : Hid (n + 2 < s.length /\ s[n]? = some 46 /\ s[n + 1]? = some 95) := ⟨c1, c2, c3⟩
       clear c2 c3
       cases he : endL s n with
       | none =>
        have hno := Lib.hid (next.out hlt (skipsL_no hlt fun _ => he))
        replace he := Lib.hid he
        go_wp2_with fail
        go_loopw [6, 7] (fun s6 s7 wi => ∃ j : Nat, n + 2 <= j /\ j <= s.length /\ s6 = .int .i64 (-1) /\ s7 = .int .i64 j /\ wr = wi /\ Hid (endL s n = wrapEndI s (s.length - j) j)) (fun _ s7 _ => s.length - (intOf s7).toNat)
        case atStart => exact ⟨n + 2, Nat.le_refl _, by omega, rfl, by go_num, rfl, rfl⟩
        case round =>
         obtain ⟨j, hj2, hj, rfl, rfl, rfl, hend⟩ := hrel
         by_cases hjl : j < s.length
         ·have hst := Lib.hid (endI_step hjl)
          by_cases d1 : s[j]? = some 47
          ·have f1 := byte_yes hjl 47 47 rfl d1
           have hend2 : Hid (endL s n = none) := by show _ = _; rw [hend.out, hst.out, if_pos d1]
           clear d1
           go_wp2_with fail
           go_roundw
           case rel => (repeat apply Exists.intro); exact ⟨hno.out, rfl⟩
           case measure => simp [intOf]; omega
          ·have f1 := byte_no hjl 47 47 rfl d1
           by_cases d2 : s[j]? = some 95
           ·have f2 := byte_yes hjl 95 95 rfl d2
            by_cases d3 : s.length <= j + 1
            ·have hend2 : Hid (endL s n = some j) := by show _ = _; rw [hend.out, hst.out, if_neg d1, if_pos ⟨d2, .inl d3⟩]
             have f3 : ¬ ((j : Int) + 1 < (s.length : Int)) := by omega
             clear d1 d2
             exact absurd (hend2.out.symm.trans he.out) (by simp)
            ·have hj1 : j + 1 < s.length := by omega
             by_cases d4 : s[j + 1]? = some 46
             ·have f4 := byte_yes hj1 46 46 rfl d4
              have hend2 : Hid (endL s n = some j) := by show _ = _; rw [hend.out, hst.out, if_neg d1, if_pos ⟨d2, .inr d4⟩]
              clear d1 d2 d4
              exact absurd (hend2.out.symm.trans he.out) (by simp)
             ·have f4 := byte_no hj1 46 46 rfl d4
              have hend2 : Hid (endL s n = wrapEndI s (s.length - (j + 1)) (j + 1)) := by show _ = _; rw [hend.out, hst.out, if_neg d1, if_neg (by intro h; rcases h.2 with h | h; exact d3 h; exact d4 h)]
              clear d1 d2 d4
              go_wp2_with fail
              go_roundw
              case rel => exact ⟨j + 1, by omega, by omega, (by first | rfl | trivial), by go_num, (by first | rfl | trivial), hend2.out⟩
              case measure => simp [intOf]; omega
           ·have f2 := byte_no hjl 95 95 rfl d2
            have hend2 : Hid (endL s n = wrapEndI s (s.length - (j + 1)) (j + 1)) := by show _ = _; rw [hend.out, hst.out, if_neg d1, if_neg (fun h => d2 h.1)]
            clear d1 d2
            go_wp2_with fail
            go_roundw
            case rel => exact ⟨j + 1, by omega, by omega, (by first | rfl | trivial), by go_num, (by first | rfl | trivial), hend2.out⟩
            case measure => simp [intOf]; omega
         ·have hend2 : Hid (endL s n = none) := by show _ = _; rw [hend.out, show s.length - j = 0 by omega]; rfl
          go_wp2_with fail
          go_roundw
          case rel => (repeat apply Exists.intro); exact ⟨hno.out, rfl⟩
          case measure => simp [intOf]; omega
       | some e =>
        replace he := Lib.hid he
        go_wp2_with fail
        go_loopw [6, 7] (fun s6 s7 wi => ∃ j : Nat, n + 2 <= j /\ j <= s.length /\ s6 = .int .i64 (-1) /\ s7 = .int .i64 j /\ wr = wi /\ Hid (endL s n = wrapEndI s (s.length - j) j)) (fun _ s7 _ => s.length - (intOf s7).toNat)
        case atStart => exact ⟨n + 2, Nat.le_refl _, by omega, rfl, by go_num, rfl, rfl⟩
        case round =>
         obtain ⟨j, hj2, hj, rfl, rfl, rfl, hend⟩ := hrel
         by_cases hjl : j < s.length
         ·have hst := Lib.hid (endI_step hjl)
          by_cases d1 : s[j]? = some 47
          ·have f1 := byte_yes hjl 47 47 rfl d1
           have hend2 : Hid (endL s n = none) := by show _ = _; rw [hend.out, hst.out, if_pos d1]
           clear d1
           exact absurd (hend2.out.symm.trans he.out) (by simp)
          ·have f1 := byte_no hjl 47 47 rfl d1
           by_cases d2 : s[j]? = some 95
           ·have f2 := byte_yes hjl 95 95 rfl d2
            by_cases d3 : s.length <= j + 1
            ·have hend2 : Hid (endL s n = some j) := by show _ = _; rw [hend.out, hst.out, if_neg d1, if_pos ⟨d2, .inl d3⟩]
             have f3 : ¬ ((j : Int) + 1 < (s.length : Int)) := by omega
             clear d1 d2
             obtain rfl : j = e := Option.some.inj (hend2.out.symm.trans he.out)
             have hD : Hid (skipsL s n = dotsIn s (j - (n + 2)) (n + 2) ++ skipsL s (j + 1)) := skipsL_yes hlt HC.out he.out hj2
             clear hend hst
             go_wp2_with fail
             go_loopw [4, 8] (fun s4 s8 wi => ∃ m : Nat, n + 2 <= m /\ m <= j /\ s8 = .int .i64 m /\ OwnN wi w.heap.size s4 (L ++ dotsIn s (m - (n + 2)) (n + 2)) /\ Below w.heap.size w wi) (fun _ s8 _ => j - (intOf s8).toNat)
             case atStart => exact ⟨n + 2, Nat.le_refl _, hj2, by go_num, by rw [Nat.sub_self]; simpa [dotsIn] using hown.out, hbel.out⟩
             case round =>
              obtain ⟨m, hm2, hm, rfl, hown3, hbel3⟩ := hrel
              have hsn := Lib.hid (dotsIn_snoc s (m - (n + 2)) (n + 2))
              have hln := dotsIn_length s (m - (n + 2)) (n + 2)
              replace hown3 := Lib.hid hown3
              replace hbel3 := Lib.hid hbel3
              by_cases hmj : m < j
              ·have hml : m < s.length := by omega
               have hidx : n + 2 + (m - (n + 2)) = m := by omega
               have hidx2 : m - (n + 2) + 1 = m + 1 - (n + 2) := by omega
               by_cases g1 : s[m]? = some 46
               ·have g2 := byte_yes hml 46 46 rfl g1
                have hnx : Hid (dotsIn s (m + 1 - (n + 2)) (n + 2) = dotsIn s (m - (n + 2)) (n + 2) ++ [m]) := by
                 show _ = _
                 rw [<- hidx2, hsn.out, hidx, if_pos g1]
                have hll : (L ++ dotsIn s (m - (n + 2)) (n + 2)).length <= 1000000000000 := by rw [List.length_append]; omega
                clear g1 hsn hidx hidx2 hln
                have hap : Hid (∀ o, OwnN (wr.alloc o) w.heap.size u4 (L ++ dotsIn s (m - (n + 2)) (n + 2))) := fun o => hown3.out.alloc o
                have hba : Hid (∀ o, Below w.heap.size w (wr.alloc o)) := fun o => hbel3.out.alloc hbel3.out.size o
                go_wp2_with (at_builtin; refine wpList_appN rfl (.tmp 80) (.tmp 82) rfl _ _ _ m rfl (hap.out _) wr.heap.size rfl ?c1 hll ?_)
                case c1 => exact cell_blk (blk_new _ _) 0
                intro v' w1 hown4 hb4
                go_wp2_with fail
                go_roundw
                case rel =>
                 have hown5 : OwnN w1 w.heap.size v' (L ++ dotsIn s (m + 1 - (n + 2)) (n + 2)) := by rw [hnx.out]; first | exact hown4 | (rw [<- List.append_assoc]; exact hown4) | (rw [<- List.append_assoc] at hown4; exact hown4)
                 first | exact ⟨m + 1, by omega, by omega, by go_num, hown5, (hba.out _).trans hb4⟩ | ((repeat apply Exists.intro); exact ⟨⟨m + 1, by omega, by omega, by go_num, hown5, (hba.out _).trans hb4⟩, rfl⟩)
                case measure => simp [intOf]; omega
               ·have g2 := byte_no hml 46 46 rfl g1
                have hnx : Hid (dotsIn s (m + 1 - (n + 2)) (n + 2) = dotsIn s (m - (n + 2)) (n + 2)) := by
                 show _ = _
                 rw [<- hidx2, hsn.out, hidx, if_neg g1, List.append_nil]
                clear g1 hsn hidx hidx2 hln
                go_wp2_with fail
                go_roundw
                case rel => first | exact ⟨m + 1, by omega, by omega, by go_num, by rw [hnx.out]; exact hown3.out, hbel3.out⟩ | ((repeat apply Exists.intro); exact ⟨⟨m + 1, by omega, by omega, by go_num, by rw [hnx.out]; exact hown3.out, hbel3.out⟩, rfl⟩)
                case measure => simp [intOf]; omega
              ·obtain rfl : m = j := by omega
               clear hsn
               go_wp2_with fail
               go_roundw
               case rel => (repeat apply Exists.intro); exact ⟨⟨m + 1, L ++ dotsIn s (m - (n + 2)) (n + 2), by omega, by rw [List.length_append]; omega, by go_num, hown3.out, hbel3.out, by show _ = _; rw [hsk.out, hD.out, List.append_assoc]⟩, rfl⟩
               case measure => simp [intOf]; omega
            ·have hj1 : j + 1 < s.length := by omega
             by_cases d4 : s[j + 1]? = some 46
             ·have f4 := byte_yes hj1 46 46 rfl d4
              have hend2 : Hid (endL s n = some j) := by show _ = _; rw [hend.out, hst.out, if_neg d1, if_pos ⟨d2, .inr d4⟩]
              clear d1 d2 d4
              obtain rfl : j = e := Option.some.inj (hend2.out.symm.trans he.out)
              have hD : Hid (skipsL s n = dotsIn s (j - (n + 2)) (n + 2) ++ skipsL s (j + 1)) := skipsL_yes hlt HC.out he.out hj2
              clear hend hst
              go_wp2_with fail
              go_loopw [4, 8] (fun s4 s8 wi => ∃ m : Nat, n + 2 <= m /\ m <= j /\ s8 = .int .i64 m /\ OwnN wi w.heap.size s4 (L ++ dotsIn s (m - (n + 2)) (n + 2)) /\ Below w.heap.size w wi) (fun _ s8 _ => j - (intOf s8).toNat)
              case atStart => exact ⟨n + 2, Nat.le_refl _, hj2, by go_num, by rw [Nat.sub_self]; simpa [dotsIn] using hown.out, hbel.out⟩
              case round =>
               obtain ⟨m, hm2, hm, rfl, hown3, hbel3⟩ := hrel
               have hsn := Lib.hid (dotsIn_snoc s (m - (n + 2)) (n + 2))
               have hln := dotsIn_length s (m - (n + 2)) (n + 2)
               replace hown3 := Lib.hid hown3
               replace hbel3 := Lib.hid hbel3
               by_cases hmj : m < j
               ·have hml : m < s.length := by omega
                have hidx : n + 2 + (m - (n + 2)) = m := by omega
                have hidx2 : m - (n + 2) + 1 = m + 1 - (n + 2) := by omega
                by_cases g1 : s[m]? = some 46
                ·have g2 := byte_yes hml 46 46 rfl g1
                 have hnx : Hid (dotsIn s (m + 1 - (n + 2)) (n + 2) = dotsIn s (m - (n + 2)) (n + 2) ++ [m]) := by
                  show _ = _
                  rw [<- hidx2, hsn.out, hidx, if_pos g1]
                 have hll : (L ++ dotsIn s (m - (n + 2)) (n + 2)).length <= 1000000000000 := by rw [List.length_append]; omega
                 clear g1 hsn hidx hidx2 hln
                 have hap : Hid (∀ o, OwnN (wr.alloc o) w.heap.size u4 (L ++ dotsIn s (m - (n + 2)) (n + 2))) := fun o => hown3.out.alloc o
                 have hba : Hid (∀ o, Below w.heap.size w (wr.alloc o)) := fun o => hbel3.out.alloc hbel3.out.size o
                 go_wp2_with (at_builtin; refine wpList_appN rfl (.tmp 80) (.tmp 82) rfl _ _ _ m rfl (hap.out _) wr.heap.size rfl ?c1 hll ?_)
                 case c1 => exact cell_blk (blk_new _ _) 0
                 intro v' w1 hown4 hb4
                 go_wp2_with fail
                 go_roundw
                 case rel =>
                  have hown5 : OwnN w1 w.heap.size v' (L ++ dotsIn s (m + 1 - (n + 2)) (n + 2)) := by rw [hnx.out]; first | exact hown4 | (rw [<- List.append_assoc]; exact hown4) | (rw [<- List.append_assoc] at hown4; exact hown4)
                  first | exact ⟨m + 1, by omega, by omega, by go_num, hown5, (hba.out _).trans hb4⟩ | ((repeat apply Exists.intro); exact ⟨⟨m + 1, by omega, by omega, by go_num, hown5, (hba.out _).trans hb4⟩, rfl⟩)
                 case measure => simp [intOf]; omega
                ·have g2 := byte_no hml 46 46 rfl g1
                 have hnx : Hid (dotsIn s (m + 1 - (n + 2)) (n + 2) = dotsIn s (m - (n + 2)) (n + 2)) := by
                  show _ = _
                  rw [<- hidx2, hsn.out, hidx, if_neg g1, List.append_nil]
                 clear g1 hsn hidx hidx2 hln
                 go_wp2_with fail
                 go_roundw
                 case rel => first | exact ⟨m + 1, by omega, by omega, by go_num, by rw [hnx.out]; exact hown3.out, hbel3.out⟩ | ((repeat apply Exists.intro); exact ⟨⟨m + 1, by omega, by omega, by go_num, by rw [hnx.out]; exact hown3.out, hbel3.out⟩, rfl⟩)
                 case measure => simp [intOf]; omega
               ·obtain rfl : m = j := by omega
                clear hsn
                go_wp2_with fail
                go_roundw
                case rel => (repeat apply Exists.intro); exact ⟨⟨m + 1, L ++ dotsIn s (m - (n + 2)) (n + 2), by omega, by rw [List.length_append]; omega, by go_num, hown3.out, hbel3.out, by show _ = _; rw [hsk.out, hD.out, List.append_assoc]⟩, rfl⟩
                case measure => simp [intOf]; omega
             ·have f4 := byte_no hj1 46 46 rfl d4
              have hend2 : Hid (endL s n = wrapEndI s (s.length - (j + 1)) (j + 1)) := by show _ = _; rw [hend.out, hst.out, if_neg d1, if_neg (by intro h; rcases h.2 with h | h; exact d3 h; exact d4 h)]
              clear d1 d2 d4
              go_wp2_with fail
              go_roundw
              case rel => exact ⟨j + 1, by omega, by omega, (by first | rfl | trivial), by go_num, (by first | rfl | trivial), hend2.out⟩
              case measure => simp [intOf]; omega
           ·have f2 := byte_no hjl 95 95 rfl d2
            have hend2 : Hid (endL s n = wrapEndI s (s.length - (j + 1)) (j + 1)) := by show _ = _; rw [hend.out, hst.out, if_neg d1, if_neg (fun h => d2 h.1)]
            clear d1 d2
            go_wp2_with fail
            go_roundw
            case rel => exact ⟨j + 1, by omega, by omega, (by first | rfl | trivial), by go_num, (by first | rfl | trivial), hend2.out⟩
            case measure => simp [intOf]; omega
         ·have hend2 : Hid (endL s n = none) := by show _ = _; rw [hend.out, show s.length - j = 0 by omega]; rfl
          exact absurd (hend2.out.symm.trans he.out) (by simp)
      ·have hno := Lib.hid (next.out hlt (skipsL_no hlt fun h => absurd h.2.2 c3))
       have b2 := byte_yes hn0 46 46 rfl c2
       have b3 := byte_no hn1 95 95 rfl c3
       clear c2 c3
       go_wp2_with fail
       go_roundw
       case rel => first | exact hno.out | ((repeat apply Exists.intro); exact ⟨hno.out, rfl⟩)
       case measure => simp [intOf]; omega
     ·have hno := Lib.hid (next.out hlt (skipsL_no hlt fun h => absurd h.2.1 c2))
      have b2 := byte_no hn0 46 46 rfl c2
      clear c2
      go_wp2_with fail
      go_roundw
      case rel => first | exact hno.out | ((repeat apply Exists.intro); exact ⟨hno.out, rfl⟩)
      case measure => simp [intOf]; omega
    ·have hno := Lib.hid (next.out hlt (skipsL_no hlt fun h => absurd h.1 c1))
     go_wp2_with fail
     go_roundw
     case rel => first | exact hno.out | ((repeat apply Exists.intro); exact ⟨hno.out, rfl⟩)
     case measure => simp [intOf]; omega
   ·have hz := Lib.hid (skipsL_end (s := s) (i := n) (by omega))
    go_wp2_with fail
    go_ret
    exact ⟨_, rfl, by rw [hsk.out, hz.out, List.append_nil]; exact hown.out, hbel.out⟩

end Go.Proofs.YtjkecadfakjanaaGreatDoor
