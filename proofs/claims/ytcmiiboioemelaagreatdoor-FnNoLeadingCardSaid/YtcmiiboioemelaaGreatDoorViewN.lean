/- A path without its first slash: impl.PathNoLeadingSlash, spec.PathNoLeadingSlash and spec.NoLeadingKnown walked. Conditions: a site in memory that names each language once; a path of ASCII of at most 100000 bytes. -/
import Derived.Test.YtcmiiboioemelaaGreatDoorSpecP
import Derived.Test.YtcmiiboioemelaaGreatDoorParse
import Derived.Test.YtcmiiboioemelaaGreatDoorSimM
set_option maxRecDepth 100000
set_option linter.unusedVariables false
set_option linter.unusedSimpArgs false
namespace Go.Proofs.YtcmiiboioemelaaGreatDoor
open Go.RowKit
attribute [local go_sem] B_extract B_toList B_append

def bareS (s : Str) : Str := if s.head? = some 47 then s.drop 1 else s
theorem c_bare (s : Str) (w : World) (hl : s.length <= 70368744177664) :
  Calls Tryz.prog 65 #[.string (B s)] w fun e w' => e = .returned (.string (B (bareS s))) /\ w = w' := by
 by_cases h0 : s = []
 ·subst h0
  go_enter Tryz.func65, Tryz.ntmps65
  go_wp2_with fail
  go_ret
  exact ⟨rfl, rfl⟩
 have hlt : 0 < s.length := List.length_pos_iff.2 h0
 have he : s.isEmpty = false := List.isEmpty_eq_false_iff.2 h0
 by_cases hd : s[0]? = some 47
 ·have b1 := byte_yes (s := s) (k := 0) hlt 47 47 rfl hd
  have HR : Hid (bareS s = s.drop 1) := by show _ = _; unfold bareS; rw [List.head?_eq_getElem?, if_pos hd]
  have hi : (1 : Int) <= (s.length : Int) := by omega
  clear hd h0
  go_enter Tryz.func65, Tryz.ntmps65
  go_wp2_with fail
  go_ret
  exact ⟨ret_str (by rw [HR.out]; simp; exact List.take_of_length_le (by simp)), rfl⟩
 ·have b1 := byte_no (s := s) (k := 0) hlt 47 47 rfl hd
  have HR : Hid (bareS s = s) := by show _ = _; unfold bareS; rw [List.head?_eq_getElem?, if_neg hd]
  clear hd h0
  go_enter Tryz.func65, Tryz.ntmps65
  go_wp2_with fail
  go_ret
  exact ⟨ret_str HR.out.symm, rfl⟩

theorem c_pathNoLead (p : PathS) (w : World) (base b : Nat) (vk vu vl : Value) (un : Un) (h : PathAt w base b p vk vu vl un) (hs : p.s.length <= 70368744177664) (h1 : 1 <= p.path.length) (h2 : p.path.length <= 70368744177664) :
  Calls Tryz.prog 66 #[.pointer (some ⟨b, 0, none⟩)] w fun e w' => e = .returned (.string (B (p.path.tail))) /\ w = w' := by
 have H := Lib.hid (c_Path p w base b vk vu vl un h hs)
 generalize p.path = P at H h1 h2 |-
 have hi : (1 : Int) <= (P.length : Int) := by omega
 clear h
 go_enter Tryz.func66, Tryz.ntmps66
 go_wp2_with fail
 refine H.out.mono ?_; rintro e w' ⟨rfl, rfl⟩
 go_wp2_with fail
 go_ret
 exact ⟨ret_str (by first | exact List.take_of_length_le (by simp) | (simp; exact List.take_of_length_le (by simp))), rfl⟩

theorem c_NoLeadKnown (site : SiteM) (comp s : Str) (vl vd vf vc : Value) (w : World) (hv : SiteAt w vl vd vf vc site) (hcl : CapOK vl) (hcd : CapOK vd) (hcc : CapOK vc) (hf : siteFits site = true) (hc : comp.length <= 2147483647) (hs : s.length <= 2147483647) :
  Calls Tryz.prog 38 #[.agg #[vl, vd, vf, vc], .string (B comp), .string (B s)] w fun e w' => e = .returned (.bool (pathKnown site comp s && (s != []))) /\ Below w.heap.size w w' := by
 have HPK : Hid (∀ wx, SiteAt wx vl vd vf vc site -> Calls Tryz.prog 20 #[.agg #[vl, vd, vf, vc], .string (B comp), .string (B s)] wx fun e w' => e = .returned (.bool (pathKnown site comp s)) /\ Below wx.heap.size wx w') := fun wx h => c_PathKnown site comp s vl vd vf vc wx h hcl hcd hcc hf hc hs
 obtain ⟨obs, hobs⟩ : ∃ o : Obj, o = .cells #[vl, vd, vf, vc] 25 := ⟨_, rfl⟩
 have hB1 : Hid (Below w.heap.size w (w.alloc obs)) := Below_alloc w obs
 have HV1 : Hid (SiteAt (w.alloc obs) vl vd vf vc site) := hv.alloc obs
 clear hv hcl hcd hcc
 cases hk : pathKnown site comp s
 all_goals
  rw [hk] at HPK
  go_enter Tryz.func38, Tryz.ntmps38
  go_wp2_with fail
  rw [<- hobs]
  generalize w.alloc obs = w1 at hB1 HV1 |-
  refine (HPK.out _ HV1.out).mono ?_; rintro e w2 ⟨rfl, b2⟩
  have hB2 := Lib.hid (belowThen hB1.out b2 (Nat.le_refl _))
  go_wp2_with fail
  go_ret
  exact ⟨ret_bool (by cases s <;> simp), hB2.out⟩

set_option maxHeartbeats 4000000 in
theorem c_implNoLead (w : World) (site : SiteM) (comp s : Str) (vl vd vf vc : Value) (hs : SiteAt w vl vd vf vc site) (hn : Once site.languages) (hl : s.length <= 900000) (ha : asciiL s = true) :
  Calls Tryz.prog 39 #[.agg #[vl, vd, vf, vc], .string (B comp), .string (B s)] w
   fun e w' => e = .returned (.string (B ((doParseM site comp (normL s)).path.tail))) /\ Below w.heap.size w w' := by
 have HPR : Hid (∀ wx, SiteAt wx vl vd vf vc site -> Calls Tryz.prog 46 #[.agg #[vl, vd, vf, vc]] wx fun e w' => ∃ pb mb fb sb, e = .returned (.pointer (some ⟨pb, 0, none⟩)) /\ PPAt w' pb mb fb sb vl vd vf vc site /\ wx.heap.size <= pb /\ Below wx.heap.size wx w') := fun wx h => c_parser site vl vd vf vc wx h hn
 have HPA : Hid (∀ wx pb mb fb sb, PPAt wx pb mb fb sb vl vd vf vc site -> Calls Tryz.prog 57 #[.pointer (some ⟨pb, 0, none⟩), .string (B comp), .string (B s)] wx
   fun e w' => ∃ b b2, e = .returned (.pointer (some ⟨b, 0, none⟩)) /\ PathHere w' wx.heap.size b b2 (doParseM site comp (normL s)) /\ SomePath w' b2 (doParseM site comp s) /\ Below wx.heap.size wx w') := fun wx pb mb fb sb h => c_Parse wx comp s pb mb fb sb vl vd vf vc site h hl ha
 have hfin := doParse_finished site comp (normL s)
 have hlen := normPath_len (normL s)
 rw [normL_len] at hlen
 have hps : (doParseM site comp (normL s)).s.length <= 70368744177664 := by rw [hfin.s_]; omega
 have hp2 : (doParseM site comp (normL s)).path.length <= 70368744177664 := by rw [hfin.path_eq]; omega
 have hp1 : 1 <= (doParseM site comp (normL s)).path.length := by rw [hfin.path_eq]; exact List.length_pos_iff.2 (normPath_ne _)
 have HNL : Hid (∀ wx base b vk vu vl1 un, PathAt wx base b (doParseM site comp (normL s)) vk vu vl1 un -> Calls Tryz.prog 66 #[.pointer (some ⟨b, 0, none⟩)] wx fun e w' => e = .returned (.string (B ((doParseM site comp (normL s)).path.tail))) /\ wx = w') := fun wx base b vk vu vl1 un h => c_pathNoLead _ wx base b vk vu vl1 un h hps hp1 hp2
 clear hfin hlen hps hp1 hp2
 generalize doParseM site comp (normL s) = P1 at HPA HNL |-
 generalize doParseM site comp s = P2 at HPA
 obtain ⟨obs, hobs⟩ : ∃ o : Obj, o = .cells #[vl, vd, vf, vc] 25 := ⟨_, rfl⟩
 have hB1 : Hid (Below w.heap.size w (w.alloc obs)) := Below_alloc w obs
 have HV1 : Hid (SiteAt (w.alloc obs) vl vd vf vc site) := hs.alloc obs
 clear hs hn ha
 go_enter Tryz.func39, Tryz.ntmps39
 go_wp2_with fail
 rw [<- hobs]
 generalize w.alloc obs = w2 at hB1 HV1 |-
 refine (HPR.out _ HV1.out).mono ?_; rintro e w3 ⟨pb, mb, fb, sb, rfl, hpp, hpb, hb3⟩
 replace hpp := Lib.hid hpp
 have hB3 := Lib.hid (belowThen hB1.out hb3 (Nat.le_refl _))
 clear HPR HV1 hB1 hb3 hpb
 go_wp2_with fail
 refine (HPA.out _ pb mb fb sb hpp.out).mono ?_; rintro e w4 ⟨b, b2, rfl, h1, h2, hb4⟩
 clear h2
 obtain ⟨vk, vu, vl1, hat⟩ := h1
 replace hat := Lib.hid hat
 have hB4 := Lib.hid (belowThen hB3.out hb4 (Nat.le_refl _))
 clear HPA hb4 hpp hB3
 go_wp2_with fail
 refine (HNL.out _ _ _ _ _ _ _ hat.out).mono ?_; rintro e w5 ⟨rfl, rfl⟩
 go_wp2_with fail
 go_ret
 exact ⟨rfl, hB4.out⟩

theorem run_tpath (w : World) (T : ToldM) (a b c : Value) : (Instr.field 28 (toldVal T a b c) 9).run Tryz.prog w = .ok (.string (B T.path)) w := by kernel_rfl

theorem c_specNoLead (site : SiteM) (comp s : Str) (vl vd vf vc : Value) (w : World) (hv : SiteAt w vl vd vf vc site) (hcl : comp.length <= 2147483647) (hsl : s.length <= 100000) :
  Calls Tryz.prog 40 #[.agg #[vl, vd, vf, vc], .string (B comp), .string (B s)] w fun e w' => e = .returned (.string (B (bareS (specParse site comp s).path))) /\ Below w.heap.size w w' := by
 have HSP : Hid (∀ wx, SiteAt wx vl vd vf vc site -> Calls Tryz.prog 45 #[.agg #[vl, vd, vf, vc], .string (B comp), .string (B s)] wx fun e w' => ∃ v, e = .returned v /\ ToldAtN wx.heap.size w' v (specParse site comp s) /\ Below wx.heap.size wx w') := fun wx h => c_specParse site comp s vl vd vf vc wx h hcl hsl
 have hpl : (specParse site comp s).path.length <= 70368744177664 := by
  have := (words_like site comp s false).plen
  have e : (specParse site comp s).path = (wordsOf site comp s false).path := rfl
  rw [e]; omega
 generalize specParse site comp s = T at HSP hpl |-
 obtain ⟨obs, hobs⟩ : ∃ o : Obj, o = .cells #[vl, vd, vf, vc] 25 := ⟨_, rfl⟩
 have hB1 : Hid (Below w.heap.size w (w.alloc obs)) := Below_alloc w obs
 have HV1 : Hid (SiteAt (w.alloc obs) vl vd vf vc site) := hv.alloc obs
 clear hv
 go_enter Tryz.func40, Tryz.ntmps40
 go_wp2_with fail
 rw [<- hobs]
 generalize w.alloc obs = w2 at hB1 HV1 |-
 refine (HSP.out _ HV1.out).mono ?_; rintro e w3 ⟨v, rfl, ⟨ql, qi, qu, rfl, -, -, -⟩, b3⟩
 have hB3 := Lib.hid (belowThen hB1.out b3 (Nat.le_refl _))
 clear b3 hB1 HV1 HSP
 have hfld := fun wx => run_tpath wx T ql qi qu
 go_wp2_with fail
 refine (c_bare T.path _ hpl).mono ?_; rintro e w4 ⟨rfl, rfl⟩
 go_wp2_with fail
 go_ret
 exact ⟨rfl, hB3.out⟩

end Go.Proofs.YtcmiiboioemelaaGreatDoor
