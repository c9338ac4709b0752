/- The walks of FnNormalize and FnNormalizeJoined: for every text the law returns true and leaves all memory that was there. No condition beyond the reach of a text's size. -/
import Derived.Test.YtdlhalifbghhmaaDoorLow
set_option maxRecDepth 100000
set_option linter.unusedVariables false
set_option linter.unusedSimpArgs false
namespace Go.Proofs.YtdlhalifbghhmaaDoor
open Go.RowKit
attribute [local go_sem] B_extract B_toList B_append

set_option maxHeartbeats 1000000 in
theorem norm_walk (l : Str) (w : World) (hs : l.length ≤ 140737488351232) :
    Calls Tryd.prog 3 #[.string (B l)] w fun e w' => e = .returned (.bool true) ∧ Below w.heap.size w w' := by
  by_cases h1 : 2147483647 < l.length
  · go_enter Tryd.func3, Tryd.ntmps3
    go_wp2_with fail
    go_ret
    exact ⟨rfl, Below.refl _ _⟩
  by_cases h2 : 2000 < l.length
  · go_enter Tryd.func3, Tryd.ntmps3
    go_wp2_with fail
    go_ret
    exact ⟨rfl, Below.refl _ _⟩
  have hl : l.length ≤ 70368744177664 := by omega
  cases ha : asciiL l with
  | false =>
    have HA := Lib.hid ha
    clear ha
    go_enter Tryd.func3, Tryd.ntmps3
    go_wp2_with (go_at_call 5; refine (c_WordKnown l _ hl).mono ?_; rintro e w' ⟨rfl, rfl⟩; rw [HA.out])
    go_ret
    exact ⟨rfl, Below.refl _ _⟩
  | true =>
    have HA := Lib.hid ha
    clear ha
    go_enter Tryd.func3, Tryd.ntmps3
    go_wp2_with fail
    refine (c_WordKnown l _ hl).mono ?_
    rintro e w' ⟨rfl, rfl⟩
    rw [HA.out]
    go_wp2_with fail
    refine (c_implNormalize l _ hl HA.out).mono ?_
    rintro e w1 ⟨rfl, hb1⟩
    go_wp2_with fail
    refine (c_Normalize l _ hl).mono ?_
    rintro e w2 ⟨rfl, hb2⟩
    go_wp2_with fail
    go_ret
    exact ⟨by simp, hb1.trans (hb2.mono hb1.size)⟩

theorem normL_append (a b : Str) : normL (a ++ b) = normL a ++ normL b := by simp [normL, Lib.toLowerA]
theorem normL_length (a : Str) : (normL a).length = a.length := by simp [normL, Lib.toLowerA]
theorem asciiL_append (a b : Str) : asciiL (a ++ b) = (asciiL a && asciiL b) := by simp [asciiL]
set_option maxHeartbeats 1000000 in
theorem joined_walk (a b : Str) (w : World) (hs : a.length ≤ 140737488351232) (hs' : b.length ≤ 140737488351232) :
    Calls Tryd.prog 4 #[.string (B a), .string (B b)] w fun e w' => e = .returned (.bool true) ∧ Below w.heap.size w w' := by
  by_cases h1 : 2147483647 < a.length
  · go_enter Tryd.func4, Tryd.ntmps4
    go_wp2_with fail
    go_ret
    exact ⟨rfl, Below.refl _ _⟩
  by_cases h2 : 2147483647 < b.length
  · go_enter Tryd.func4, Tryd.ntmps4
    go_wp2_with fail
    go_ret
    exact ⟨rfl, Below.refl _ _⟩
  by_cases h3 : 2000 < a.length + b.length
  · go_enter Tryd.func4, Tryd.ntmps4
    go_wp2_with fail
    go_ret
    exact ⟨rfl, Below.refl _ _⟩
  have hl : a.length ≤ 70368744177664 := by omega
  have hl' : b.length ≤ 70368744177664 := by omega
  cases ha : asciiL a with
  | false =>
    have HA := Lib.hid ha
    clear ha
    go_enter Tryd.func4, Tryd.ntmps4
    go_wp2_with fail
    refine (c_WordKnown a _ hl).mono ?_
    rintro e w' ⟨rfl, rfl⟩
    rw [HA.out]
    go_wp2_with fail
    go_ret
    exact ⟨rfl, Below.refl _ _⟩
  | true =>
    cases hb : asciiL b with
    | false =>
      have HA := Lib.hid ha
      have HB := Lib.hid hb
      clear ha hb
      go_enter Tryd.func4, Tryd.ntmps4
      go_wp2_with fail
      refine (c_WordKnown a _ hl).mono ?_
      rintro e w' ⟨rfl, rfl⟩
      rw [HA.out]
      go_wp2_with fail
      refine (c_WordKnown b _ hl').mono ?_
      rintro e w' ⟨rfl, rfl⟩
      rw [HB.out]
      go_wp2_with fail
      go_ret
      exact ⟨rfl, Below.refl _ _⟩
    | true =>
      have HA := Lib.hid ha
      have HB := Lib.hid hb
      have HAB : Hid (asciiL (a ++ b) = true) := by show _ = _; rw [asciiL_append, ha, hb]; rfl
      clear ha hb
      have hlab : (a ++ b).length ≤ 70368744177664 := by rw [List.length_append]; omega
      have hn1 := normL_length a
      have hn2 := normL_length b
      have HN := Lib.hid (normL_append a b)
      go_enter Tryd.func4, Tryd.ntmps4
      go_wp2_with fail
      refine (c_WordKnown a _ hl).mono ?_
      rintro e w' ⟨rfl, rfl⟩
      rw [HA.out]
      go_wp2_with fail
      refine (c_WordKnown b _ hl').mono ?_
      rintro e w' ⟨rfl, rfl⟩
      rw [HB.out]
      go_wp2_with fail
      refine (c_implNormalize (a ++ b) _ hlab HAB.out).mono ?_
      rintro e w1 ⟨rfl, hb1⟩
      rw [HN.out]
      go_wp2_with fail
      refine (c_implNormalize a _ hl HA.out).mono ?_
      rintro e w2 ⟨rfl, hb2⟩
      go_wp2_with fail
      refine (c_implNormalize b _ hl' HB.out).mono ?_
      rintro e w3 ⟨rfl, hb3⟩
      go_wp2_with fail
      go_ret
      exact ⟨by simp, (hb1.trans (hb2.mono hb1.size)).trans (hb3.mono (Nat.le_trans hb1.size hb2.size))⟩

end Go.Proofs.YtdlhalifbghhmaaDoor
