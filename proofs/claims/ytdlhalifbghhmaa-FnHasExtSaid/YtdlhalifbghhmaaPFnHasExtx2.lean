-- PRINTED BY print.sh 35421559b90ae4d0a3588c463048766b98c2df88dd9212a6774a882060cdf62d: not written by this session
import Derived.Test.YtdlhalifbghhmaaPFnHasExtx0
import Derived.Test.YtdlhalifbghhmaaPFnHasExtx1
namespace Go.Proofs.Ytdlhalifbghhmaa.PFnHasExt
open Go.RowKit Go.Proofs.YtdlhalifbghhmaaW.PrintWords Go.Proofs.YtdlhalifbghhmaaW.PrintLast Go.Proofs.YtdlhalifbghhmaaW.PrintMore
attribute [local go_sem] max2_int min2_int max_two min_two max_three min_three max_four min_four   -- for this text's walks alone
set_option linter.unusedVariables false
set_option linter.unusedSimpArgs false

/-! ### laws_FnHasExt: function 3 -/
def laws_FnHasExt.j0 : Nat → ByteArray → Bool → Option (Bool)
  | 0, _, _ => none
  | k + 1, x0, x13 => if x13 = true then (some true) else ((impl_HasExt.f k x0).bind fun t106 => ((spec_HasExt.f k x0).bind fun t107 => (if (t106 == t107) = true then ((impl_HasExt.f k x0).bind fun t108 => ((laws_lastOf.f k x0 47).bind fun t109 => (if 0 ≤ (wrap64 (t109 + 1)) then (if (wrap64 (t109 + 1)) ≤ (x0.size : Int) then ((laws_holds.f k (x0.extract ((wrap64 (t109 + 1)) : Int).toNat x0.size) (⟨#[46]⟩ : ByteArray)).bind fun t110 => (some (t108 == t110))) else (none)) else (none)))) else (some false))))
def laws_FnHasExt.f (k : Nat) (a0 : ByteArray) : Option (Bool) := if (a0.size : Int) > 2147483647 then (some true) else (if (a0.size : Int) > 2000 then (laws_FnHasExt.j0 k a0 true) else ((spec_WordKnown.f k a0).bind fun t105 => (laws_FnHasExt.j0 k a0 (!t105))))
theorem laws_FnHasExt.mono_l : ∀ k, (∀ y0 y1, LeO (laws_FnHasExt.j0 k y0 y1) (laws_FnHasExt.j0 (k + 1) y0 y1))
  | 0 => fun _ _ r h => by simp [laws_FnHasExt.j0] at h
  | k + 1 => by
    have ih0 := laws_FnHasExt.mono_l k
    · intro y0 y1
      unfold laws_FnHasExt.j0
      repeat' first
      | (with_reducible exact ih0 _ _)
      | (with_reducible exact impl_HasExt.mono _ _)
      | (with_reducible exact laws_holds.mono _ _ _)
      | (with_reducible exact laws_lastOf.mono _ _ _)
      | (with_reducible exact spec_HasExt.mono _ _)
      | (with_reducible exact spec_WordKnown.mono _ _)
      | (with_reducible exact LeO.refl _)
      | (with_reducible exact LeO.none _)
      | (with_reducible refine LeO.ite ?_ ?_)
      | (with_reducible refine LeO.bind ?_ (fun _ => ?_))
      | exact ih0 _ _
      | exact impl_HasExt.mono _ _
      | exact laws_holds.mono _ _ _
      | exact laws_lastOf.mono _ _ _
      | exact spec_HasExt.mono _ _
      | exact spec_WordKnown.mono _ _
      | exact LeO.none _
      | refine LeO.ite ?_ ?_
      | refine LeO.bind ?_ (fun _ => ?_)
theorem laws_FnHasExt.mono : ∀ a0 k, LeO (laws_FnHasExt.f k a0) (laws_FnHasExt.f (k + 1) a0) := by
  intro a0 k
  have ih0 := laws_FnHasExt.mono_l k
  unfold laws_FnHasExt.f
  repeat' first
      | (with_reducible exact ih0 _ _)
      | (with_reducible exact impl_HasExt.mono _ _)
      | (with_reducible exact laws_holds.mono _ _ _)
      | (with_reducible exact laws_lastOf.mono _ _ _)
      | (with_reducible exact spec_HasExt.mono _ _)
      | (with_reducible exact spec_WordKnown.mono _ _)
      | (with_reducible exact LeO.refl _)
      | (with_reducible exact LeO.none _)
      | (with_reducible refine LeO.ite ?_ ?_)
      | (with_reducible refine LeO.bind ?_ (fun _ => ?_))
      | exact ih0 _ _
      | exact impl_HasExt.mono _ _
      | exact laws_holds.mono _ _ _
      | exact laws_lastOf.mono _ _ _
      | exact spec_HasExt.mono _ _
      | exact spec_WordKnown.mono _ _
      | exact LeO.none _
      | refine LeO.ite ?_ ?_
      | refine LeO.bind ?_ (fun _ => ?_)
set_option maxHeartbeats 8000000 in
set_option maxRecDepth 100000 in
theorem laws_FnHasExt.calls (k : Nat) (a0 : ByteArray) (r : Bool) (w : World) (h : laws_FnHasExt.f k a0 = some r) :
    Calls Try.prog 3 #[.string a0] w fun e w' => e = .returned (.bool r) ∧ Drawn0 w w' := by
  have H : (if (a0.size : Int) > 2147483647 then (some true) else (if (a0.size : Int) > 2000 then (laws_FnHasExt.j0 k a0 true) else ((spec_WordKnown.f k a0).bind fun t105 => (laws_FnHasExt.j0 k a0 (!t105))))) = some r := h
  clear h
  by_cases c2 : (a0.size : Int) > 2147483647
  · rw [if_pos c2] at H
    have c2b0 : decide (2147483647 < (a0.size : Int)) = true := decide_eq_true c2
    have c2b1 : decide (2147483647 < a0.size) = true := decide_eq_true (by omega)
    clear c2
    obtain rfl := Option.some.inj H
    go_enter Try.func3, Try.ntmps3
    go_wp2
    go_ret
    exact ⟨by first | rfl | (simp; done) | (simp [*]; done), by repeat (first | exact Drawn0.refl _ | apply Drawn0.step)⟩
  · rw [if_neg c2] at H
    have c2b0 : decide (2147483647 < (a0.size : Int)) = false := decide_eq_false c2
    have c2b1 : decide (2147483647 < a0.size) = false := decide_eq_false (by omega)
    clear c2
    have HC3 := Aside0.mk H
    clear H
    go_enter Try.func3, Try.ntmps3
    go_upto_region 3 with (fail)
    go_cut [13] (fun v13 wc => ∃ (kq : Nat) (x13_2 : Bool), v13 = .bool x13_2 ∧ Aside0 (laws_FnHasExt.j0 kq a0 x13_2 = some r) ∧ Aside0 (kq ≤ k) ∧ Drawn0 w wc)
    case first =>
      have H := HC3.out
      clear HC3
      by_cases c4 : (a0.size : Int) > 2000
      · rw [if_pos c4] at H
        have c4b0 : decide (2000 < (a0.size : Int)) = true := decide_eq_true c4
        have c4b1 : decide (2000 < a0.size) = true := decide_eq_true (by omega)
        clear c4
        (first | rw [c4b0] | (simp only [i64_w, i32_w]; rw [c4b0]) | skip)
        have H' := Aside0.mk H
        clear H
        go_wp2
        go_meet
        case rel => exact ⟨_, (true), (by first | rfl | (simp; done) | (simp [*]; done)), H', ⟨by first | omega | exact Nat.le_refl _⟩, by repeat (first | exact Drawn0.refl _ | apply Drawn0.step)⟩
      · rw [if_neg c4] at H
        have c4b0 : decide (2000 < (a0.size : Int)) = false := decide_eq_false c4
        have c4b1 : decide (2000 < a0.size) = false := decide_eq_false (by omega)
        clear c4
        (first | rw [c4b0] | (simp only [i64_w, i32_w]; rw [c4b0]) | skip)
        replace H := Option.bind_eq_some_iff.mp H
        obtain ⟨t105, A50, H⟩ := H
        replace H : (laws_FnHasExt.j0 k a0 (!t105)) = some r := H
        have A5 := Aside0.mk A50
        clear A50
        have H' := Aside0.mk H
        clear H
        go_wp2_with (first | (go_at_call 4; (with_reducible refine (spec_WordKnown.calls k a0 t105 _ A5.out).mono ?_); rintro e w' ⟨rfl, ⟨nd, rfl⟩⟩))
        go_meet
        case rel => exact ⟨_, (!t105), (by first | rfl | (simp; done) | (simp [*]; done)), H', ⟨by first | omega | exact Nat.le_refl _⟩, by repeat (first | exact Drawn0.refl _ | apply Drawn0.step)⟩
    case rest =>
      clear HC3
      try clear c2
      try clear c2b0
      try clear c2b1
      try clear p2
      try clear c3
      try clear c4
      try clear c4b0
      try clear c4b1
      obtain ⟨kq, x13_2, rfl, HA, HJ2, ⟨mc2, rfl⟩⟩ := hcut
      cases kq with
      | zero => exact absurd HA.out (by simp [laws_FnHasExt.j0])
      | succ kj2 =>
        have H := HA.out
        clear HA
        simp only [laws_FnHasExt.j0] at H
        by_cases c6 : x13_2 = true
        · subst c6
          have H1 : (some true) = some r := by rw [if_pos rfl] at H; exact H
          clear H
          have H := H1
          clear H1
          obtain rfl := Option.some.inj H
          go_wp2
          go_ret
          exact ⟨by first | rfl | (simp; done) | (simp [*]; done), by repeat (first | exact Drawn0.refl _ | apply Drawn0.step)⟩
        · replace c6 := Bool.eq_false_iff.mpr c6
          subst c6
          have H1 : ((impl_HasExt.f kj2 a0).bind fun t106 => ((spec_HasExt.f kj2 a0).bind fun t107 => (if (t106 == t107) = true then ((impl_HasExt.f kj2 a0).bind fun t108 => ((laws_lastOf.f kj2 a0 47).bind fun t109 => (if 0 ≤ (wrap64 (t109 + 1)) then (if (wrap64 (t109 + 1)) ≤ (a0.size : Int) then ((laws_holds.f kj2 (a0.extract ((wrap64 (t109 + 1)) : Int).toNat a0.size) (⟨#[46]⟩ : ByteArray)).bind fun t110 => (some (t108 == t110))) else (none)) else (none)))) else (some false)))) = some r := by rw [if_neg (show ¬ (false = true) by decide)] at H; exact H
          clear H
          have H := H1
          clear H1
          replace H := Option.bind_eq_some_iff.mp H
          obtain ⟨t106, A70, H⟩ := H
          replace H : ((spec_HasExt.f kj2 a0).bind fun t107 => (if (t106 == t107) = true then ((impl_HasExt.f kj2 a0).bind fun t108 => ((laws_lastOf.f kj2 a0 47).bind fun t109 => (if 0 ≤ (wrap64 (t109 + 1)) then (if (wrap64 (t109 + 1)) ≤ (a0.size : Int) then ((laws_holds.f kj2 (a0.extract ((wrap64 (t109 + 1)) : Int).toNat a0.size) (⟨#[46]⟩ : ByteArray)).bind fun t110 => (some (t108 == t110))) else (none)) else (none)))) else (some false))) = some r := H
          have A7 := Aside0.mk A70
          clear A70
          replace H := Option.bind_eq_some_iff.mp H
          obtain ⟨t107, A80, H⟩ := H
          replace H : (if (t106 == t107) = true then ((impl_HasExt.f kj2 a0).bind fun t108 => ((laws_lastOf.f kj2 a0 47).bind fun t109 => (if 0 ≤ (wrap64 (t109 + 1)) then (if (wrap64 (t109 + 1)) ≤ (a0.size : Int) then ((laws_holds.f kj2 (a0.extract ((wrap64 (t109 + 1)) : Int).toNat a0.size) (⟨#[46]⟩ : ByteArray)).bind fun t110 => (some (t108 == t110))) else (none)) else (none)))) else (some false)) = some r := H
          have A8 := Aside0.mk A80
          clear A80
          by_cases c9 : (t106 == t107) = true
          · rw [if_pos c9] at H
            have c9b0 : (t106 == t107) = true := c9
            (try (have c9b1 : decide (t106 = t107) = true := by simpa using c9))
            (try (have c9b2 : (t106 == t107) = true := by simpa using c9))
            clear c9
            replace H := Option.bind_eq_some_iff.mp H
            obtain ⟨t108, A100, H⟩ := H
            replace H : ((laws_lastOf.f kj2 a0 47).bind fun t109 => (if 0 ≤ (wrap64 (t109 + 1)) then (if (wrap64 (t109 + 1)) ≤ (a0.size : Int) then ((laws_holds.f kj2 (a0.extract ((wrap64 (t109 + 1)) : Int).toNat a0.size) (⟨#[46]⟩ : ByteArray)).bind fun t110 => (some (t108 == t110))) else (none)) else (none))) = some r := H
            have A10 := Aside0.mk A100
            clear A100
            replace H := Option.bind_eq_some_iff.mp H
            obtain ⟨t109, A110, H⟩ := H
            replace H : (if 0 ≤ (wrap64 (t109 + 1)) then (if (wrap64 (t109 + 1)) ≤ (a0.size : Int) then ((laws_holds.f kj2 (a0.extract ((wrap64 (t109 + 1)) : Int).toNat a0.size) (⟨#[46]⟩ : ByteArray)).bind fun t110 => (some (t108 == t110))) else (none)) else (none)) = some r := H
            have A11 := Aside0.mk A110
            clear A110
            obtain ⟨ji12, hji12⟩ : ∃ j_ : Int, (wrap64 (t109 + 1)) = j_ := ⟨_, rfl⟩
            replace H : (if 0 ≤ (ji12) then (if (ji12) ≤ (a0.size : Int) then ((laws_holds.f kj2 (a0.extract ((ji12) : Int).toNat a0.size) (⟨#[46]⟩ : ByteArray)).bind fun t110 => (some (t108 == t110))) else (none)) else (none)) = some r := by first | (rw [hji12] at H; exact H) | (simp only [hji12] at H ⊢; exact H)
            (try rw [hji12] at A7)
            (try rw [hji12] at A8)
            (try rw [hji12] at A10)
            (try rw [hji12] at A11)
            have hji12w : (IntKind.i64.wrap (t109 + 1)) = ji12 := (i64_w _).trans hji12
            by_cases c13 : 0 ≤ (ji12)
            · rw [if_pos c13] at H
              have c13b0 := eq_true c13
              have c13b1 : decide (0 ≤ (ji12)) = true := decide_eq_true c13
              clear c13
              by_cases c14 : (ji12) ≤ (a0.size : Int)
              · rw [if_pos c14] at H
                have c14b0 := eq_true c14
                have c14b1 : decide ((ji12) ≤ (a0.size : Int)) = true := decide_eq_true c14
                clear c14
                replace H := Option.bind_eq_some_iff.mp H
                obtain ⟨t110, A150, H⟩ := H
                replace H : (some (t108 == t110)) = some r := H
                have A15 := Aside0.mk A150
                clear A150
                obtain rfl := Option.some.inj H
                go_wp2_with (first | ((with_reducible refine gate_callee (f := 5) rfl ?_); refine goesL_ (some 15) rfl rfl Try.func5 (by kernel_rfl) rfl #[.string a0] rfl (by (try simp only [List.map_toArray, List.map_cons, List.map_nil]); first | done | rfl | (simp only [List.length_drop, List.length_take]; rfl)) ?_; (with_reducible refine (impl_HasExt.calls kj2 a0 t106 _ A7.out).mono ?_); rintro e w' ⟨rfl, ⟨nd, rfl⟩⟩; refine ⟨_, rfl, ?_⟩) | ((with_reducible refine gate_callee (f := 6) rfl ?_); refine goesL_ (some 17) rfl rfl Try.func6 (by kernel_rfl) rfl #[.string a0] rfl (by (try simp only [List.map_toArray, List.map_cons, List.map_nil]); first | done | rfl | (simp only [List.length_drop, List.length_take]; rfl)) ?_; (with_reducible refine (spec_HasExt.calls kj2 a0 t107 _ A8.out).mono ?_); rintro e w' ⟨rfl, ⟨nd, rfl⟩⟩; refine ⟨_, rfl, ?_⟩) | (go_at_call 5; (with_reducible refine (impl_HasExt.calls kj2 a0 t108 _ A10.out).mono ?_); rintro e w' ⟨rfl, ⟨nd, rfl⟩⟩) | (go_at_call 8; (with_reducible refine (laws_lastOf.calls kj2 a0 47 t109 _ A11.out).mono ?_); rintro e w' ⟨rfl, ⟨nd, rfl⟩⟩) | (go_at_call 7; (with_reducible refine (laws_holds.calls kj2 (a0.extract ((ji12) : Int).toNat a0.size) (⟨#[46]⟩ : ByteArray) t110 _ A15.out).mono ?_); rintro e w' ⟨rfl, ⟨nd, rfl⟩⟩))
                go_ret
                exact ⟨by first | rfl | (simp; done) | (simp only [← hji12] <;> (first | rfl | simp)) | (simp [*]; done), by repeat (first | exact Drawn0.refl _ | apply Drawn0.step)⟩
              · rw [if_neg c14] at H
                exact absurd H (by simp)
            · rw [if_neg c13] at H
              exact absurd H (by simp)
          · rw [if_neg c9] at H
            have c9b0 : (t106 == t107) = false := by simpa using c9
            (try (have c9b1 : decide (t106 = t107) = false := by simpa using c9))
            (try (have c9b2 : (t106 == t107) = false := by simpa using c9))
            (try (have c9b3 : ¬ (t106 = t107) := by simpa using c9))
            clear c9
            obtain rfl := Option.some.inj H
            go_wp2_with (first | ((with_reducible refine gate_callee (f := 5) rfl ?_); refine goesL_ (some 15) rfl rfl Try.func5 (by kernel_rfl) rfl #[.string a0] rfl (by (try simp only [List.map_toArray, List.map_cons, List.map_nil]); first | done | rfl | (simp only [List.length_drop, List.length_take]; rfl)) ?_; (with_reducible refine (impl_HasExt.calls kj2 a0 t106 _ A7.out).mono ?_); rintro e w' ⟨rfl, ⟨nd, rfl⟩⟩; refine ⟨_, rfl, ?_⟩) | ((with_reducible refine gate_callee (f := 6) rfl ?_); refine goesL_ (some 17) rfl rfl Try.func6 (by kernel_rfl) rfl #[.string a0] rfl (by (try simp only [List.map_toArray, List.map_cons, List.map_nil]); first | done | rfl | (simp only [List.length_drop, List.length_take]; rfl)) ?_; (with_reducible refine (spec_HasExt.calls kj2 a0 t107 _ A8.out).mono ?_); rintro e w' ⟨rfl, ⟨nd, rfl⟩⟩; refine ⟨_, rfl, ?_⟩))
            go_ret
            exact ⟨by first | rfl | (simp; done) | (simp [*]; done), by repeat (first | exact Drawn0.refl _ | apply Drawn0.step)⟩

/-- THE ONE PURE STATEMENT of laws_FnHasExt: yours. -/
def laws_FnHasExt.Pure : Prop := ∀ (a0 : ByteArray), a0.size ≤ 140737488351232 → ∃ k, laws_FnHasExt.f k a0 = some true
theorem laws_FnHasExt.walk (P : laws_FnHasExt.Pure) (a0 : ByteArray) (w : World) (w0 : a0.size ≤ 140737488351232) :
    Calls Try.prog 3 #[.string a0] w fun e w' => e = .returned (.bool true) ∧ Below w.heap.size w w' := by
  obtain ⟨k, h⟩ := P a0 w0
  refine (laws_FnHasExt.calls k a0 true w h).mono ?_
  rintro e w' ⟨rfl, hd⟩
  exact ⟨rfl, hd.below⟩

end Go.Proofs.Ytdlhalifbghhmaa.PFnHasExt
