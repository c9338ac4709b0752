/- Of which views something is said: spec.TrimmedKnown, spec.ForTypeKnown walked. Conditions: a site in memory, texts of at most 2147483647 bytes. -/
import Derived.Test.YtbnmgneaofhdiaaGreatDoorKnowA
set_option maxRecDepth 100000
set_option linter.unusedVariables false
set_option linter.unusedSimpArgs false
namespace Go.Proofs.YtbnmgneaofhdiaaGreatDoor
open Go.RowKit
attribute [local go_sem] B_extract B_toList B_append

theorem c_TrimKnown (site : SiteM) (comp s : Str) (vl vd vf vc : Value) (w : World) (hv : SiteAt w vl vd vf vc site) (hcl : CapOK vl) (hcd : CapOK vd) (hcc : CapOK vc) (hf : siteFits site = true) (hc : comp.length <= 2147483647) (hs : s.length <= 2147483647) :
  Calls Tryz.prog 13 #[.agg #[vl, vd, vf, vc], .string (B comp), .string (B s)] w fun e w' => e = .returned (.bool (pathKnown site comp s && (pathOf s false != [47]))) /\ Below w.heap.size w w' := by
 have HPK : Hid (∀ wx, SiteAt wx vl vd vf vc site -> Calls Tryz.prog 9 #[.agg #[vl, vd, vf, vc], .string (B comp), .string (B s)] wx fun e w' => e = .returned (.bool (pathKnown site comp s)) /\ Below wx.heap.size wx w') := fun wx h => c_PathKnown site comp s vl vd vf vc wx h hcl hcd hcc hf hc hs
 have HPO : Hid (∀ wx, Calls Tryz.prog 28 #[.string (B s), .bool false] wx fun e w' => e = .returned (.string (B (pathOf s false))) /\ Below wx.heap.size wx w') := fun wx => c_PathOf s false wx (by omega)
 generalize pathOf s false = PO at HPO |-
 obtain ⟨obs, hobs⟩ : ∃ o : Obj, o = .cells #[vl, vd, vf, vc] 25 := ⟨_, rfl⟩
 have hB1 : Hid (Below w.heap.size w (w.alloc obs)) := Below_alloc w obs
 have HV1 : Hid (SiteAt (w.alloc obs) vl vd vf vc site) := hv.alloc obs
 clear hv hcl hcd hcc
 cases hk : pathKnown site comp s with
 | false =>
  rw [hk] at HPK
  go_enter Tryz.func13, Tryz.ntmps13
  go_wp2_with fail
  rw [<- hobs]
  generalize w.alloc obs = w1 at hB1 HV1 |-
  refine (HPK.out _ HV1.out).mono ?_; rintro e w2 ⟨rfl, b2⟩
  have hB2 := Lib.hid (belowThen hB1.out b2 (Nat.le_refl _))
  go_wp2_with fail
  go_ret
  exact ⟨rfl, hB2.out⟩
 | true =>
  rw [hk] at HPK
  go_enter Tryz.func13, Tryz.ntmps13
  go_wp2_with fail
  rw [<- hobs]
  generalize w.alloc obs = w1 at hB1 HV1 |-
  refine (HPK.out _ HV1.out).mono ?_; rintro e w2 ⟨rfl, b2⟩
  have hB2 := Lib.hid (belowThen hB1.out b2 (Nat.le_refl _))
  clear b2 hB1
  go_wp2_with fail
  refine (HPO.out _).mono ?_; rintro e w3 ⟨rfl, b3⟩
  have hB3 := Lib.hid (belowThen hB2.out b3 (Nat.le_refl _))
  go_wp2_with fail
  go_ret
  exact ⟨ret_bool (by simp [bne]), hB3.out⟩

def typeIn (t : Int) : Bool := decide (0 <= t) && decide (t <= 9)
theorem c_ForKnown (site : SiteM) (comp s : Str) (t : Int) (vl vd vf vc : Value) (w : World) (hv : SiteAt w vl vd vf vc site) (hcl : CapOK vl) (hcd : CapOK vd) (hcc : CapOK vc) (hf : siteFits site = true) (hc : comp.length <= 2147483647) (hs : s.length <= 2147483647) :
  Calls Tryz.prog 18 #[.agg #[vl, vd, vf, vc], .string (B comp), .string (B s), .int .i64 t] w fun e w' => e = .returned (.bool (pathKnown site comp s && typeIn t)) /\ Below w.heap.size w w' := by
 have HPK : Hid (∀ wx, SiteAt wx vl vd vf vc site -> Calls Tryz.prog 9 #[.agg #[vl, vd, vf, vc], .string (B comp), .string (B s)] wx fun e w' => e = .returned (.bool (pathKnown site comp s)) /\ Below wx.heap.size wx w') := fun wx h => c_PathKnown site comp s vl vd vf vc wx h hcl hcd hcc hf hc hs
 obtain ⟨obs, hobs⟩ : ∃ o : Obj, o = .cells #[vl, vd, vf, vc] 25 := ⟨_, rfl⟩
 have hB1 : Hid (Below w.heap.size w (w.alloc obs)) := Below_alloc w obs
 have HV1 : Hid (SiteAt (w.alloc obs) vl vd vf vc site) := hv.alloc obs
 clear hv hcl hcd hcc
 have HR : Hid (typeIn t = (decide (0 <= t) && decide (t <= 9))) := rfl
 generalize typeIn t = ti at HR |-
 by_cases h1 : 0 <= t
 ·by_cases h2 : t <= 9
  ·have hti : ti = true := by rw [HR.out, decide_eq_true h1, decide_eq_true h2]; rfl
   subst hti
   clear HR
   cases hk : pathKnown site comp s
   all_goals
    rw [hk] at HPK
    go_enter Tryz.func18, Tryz.ntmps18
    go_wp2_with fail
    rw [<- hobs]
    generalize w.alloc obs = w1 at hB1 HV1 |-
    refine (HPK.out _ HV1.out).mono ?_; rintro e w2 ⟨rfl, b2⟩
    have hB2 := Lib.hid (belowThen hB1.out b2 (Nat.le_refl _))
    go_wp2_with fail
    go_ret
    exact ⟨ret_bool (by first | rfl | (simp; omega)), hB2.out⟩
  ·have hti : ti = false := by rw [HR.out, decide_eq_false h2, Bool.and_false]
   subst hti
   clear HR
   cases hk : pathKnown site comp s
   all_goals
    rw [hk] at HPK
    go_enter Tryz.func18, Tryz.ntmps18
    go_wp2_with fail
    rw [<- hobs]
    generalize w.alloc obs = w1 at hB1 HV1 |-
    refine (HPK.out _ HV1.out).mono ?_; rintro e w2 ⟨rfl, b2⟩
    have hB2 := Lib.hid (belowThen hB1.out b2 (Nat.le_refl _))
    go_wp2_with fail
    go_ret
    exact ⟨ret_bool (by first | rfl | (simp; omega)), hB2.out⟩
 ·have hti : ti = false := by rw [HR.out, decide_eq_false h1]; rfl
  subst hti
  clear HR
  cases hk : pathKnown site comp s
  all_goals
   rw [hk] at HPK
   go_enter Tryz.func18, Tryz.ntmps18
   go_wp2_with fail
   rw [<- hobs]
   generalize w.alloc obs = w1 at hB1 HV1 |-
   refine (HPK.out _ HV1.out).mono ?_; rintro e w2 ⟨rfl, b2⟩
   have hB2 := Lib.hid (belowThen hB1.out b2 (Nat.le_refl _))
   go_wp2_with fail
   go_ret
   exact ⟨ret_bool (by first | rfl | (simp; omega)), hB2.out⟩

end Go.Proofs.YtbnmgneaofhdiaaGreatDoor
